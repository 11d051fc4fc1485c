import JvmDerived
import JvmDerived.Pilot.@@N@@Statement
import JvmDerived.Pilot.@@N@@Code
set_option linter.unusedVariables false
set_option linter.unusedSimpArgs false
/- laws to paste: Road.backV, Road.lenW, Road.codOf (cut by pick.py; bodies as the Statement names them) -/
namespace Jvm.Pilot.@@N@@
namespace StrChars
open Jvm Sem ClassFile Op Lib Jvm.Stand Jvm.Free.XT Jvm.Free.ALB Jvm.Free.JM Jvm.Free
open Jvm.Lib.Cold (StaticIs)
/-- a char array whose places are chars -/
def Ch (a : Addr) (A : Cell) (U : State) : Prop := Arr .char a A U ∧ Typed .char A
theorem Ch.mv {a : Addr} {A : Cell} {U U' : State} (h : Ch a A U) (hal : U.vm.Alike U'.vm) (hh : U'.heap = U.heap) : Ch a A U' := ⟨h.1.mv hal hh, h.2⟩
theorem Ch.keep {a : Addr} {A : Cell} {U U' : State} (h : Ch a A U) (hal : U.vm.Alike U'.vm) (hk : U'.heap[a]? = some A) : Ch a A U' := ⟨h.1.keep hal hk, h.2⟩
/-- what place i of a char[]'s cell holds -/
def cv (A : Cell) (i : Nat) : Int32 := match A.slots[i]? with | some (.int x) => x | _ => 0
theorem Ch.get {a : Addr} {A : Cell} {U : State} (h : Ch a A U) {i : Nat} (hi : i < A.slots.size) : A.slots[i]? = some (.int (cv A i)) := by
  have e := Array.getElem?_eq_getElem hi
  have f := h.2 i _ e
  unfold cv; rw [e]
  generalize A.slots[i] = v at f
  cases v <;> simp [fits] at f ⊢
/-- the byte that i2b leaves of a char -/
def lo8 (x : Int32) : Int32 := x.toInt8.toInt32
theorem fits_lo8 (y : Int32) : fits .byte (.int (lo8 y)) = true := by
  have h1 := y.toInt8.le_toInt
  have h2 := y.toInt8.toInt_lt
  simp only [lo8, fits, Bool.and_eq_true, decide_eq_true_eq, Int32.le_iff_toInt_le, Int8.toInt_toInt32, show (-128 : Int32).toInt = -128 from by decide, show (127 : Int32).toInt = 127 from by decide]
  omega
/-- A' is A but that each place j of lo .. hi - 1 holds f j -/
def Laid (A A' : Cell) (lo hi : Nat) (f : Nat → Value) : Prop := A'.cls = A.cls ∧ A'.vm = A.vm ∧ A'.slots.size = A.slots.size ∧ ∀ i, A'.slots[i]? = if lo ≤ i ∧ i < hi then some (f i) else A.slots[i]?
theorem Laid.zero (A : Cell) (lo : Nat) (f : Nat → Value) : Laid A A lo (lo + 0) f := ⟨rfl, rfl, rfl, fun i => by rw [if_neg (by omega)]⟩
theorem Laid.step {A Ak : Cell} {lo k : Nat} {f : Nat → Value} {v : Value} (h : Laid A Ak lo k f) (hlo : lo ≤ k) (hk : k < Ak.slots.size) (hv : v = f k) : Laid A (Ak.setSlot k v) lo (k + 1) f := by
  refine ⟨h.1, h.2.1, by simpa [Cell.setSlot] using h.2.2.1, fun i => ?_⟩
  by_cases e : k = i
  · subst e; rw [Cell.slots_setSlot_self v hk, if_pos (by omega), hv]
  · rw [Cell.slots_setSlot_ne v e, h.2.2.2 i]
    by_cases q : lo ≤ i ∧ i < k
    · rw [if_pos q, if_pos (by omega)]
    · rw [if_neg q, if_neg (by omega)]
def U16 : String := "java/lang/StringUTF16"
namespace Cmp5
def yN : MethodName := ⟨"java/lang/StringUTF16", "compress", "([CI[BII)I"⟩
abbrev yB : ByteArray := jdk_52_method_21_code
theorem d0 : decode yB 0 = .ok (.iconst 0, 1) := by decide +kernel
theorem d1 : decode yB 1 = .ok (.istore 5, 2) := by decide +kernel
theorem d3 : decode yB 3 = .ok (.iload 5, 2) := by decide +kernel
theorem d5 : decode yB 5 = .ok (.iload 4, 2) := by decide +kernel
theorem d7 : decode yB 7 = .ok (.if_icmp (.ge) 37, 3) := by decide +kernel
theorem d10 : decode yB 10 = .ok (.aload_n 0, 1) := by decide +kernel
theorem d11 : decode yB 11 = .ok (.iload_n 1, 1) := by decide +kernel
theorem d12 : decode yB 12 = .ok (.caload, 1) := by decide +kernel
theorem d13 : decode yB 13 = .ok (.istore 6, 2) := by decide +kernel
theorem d15 : decode yB 15 = .ok (.iload 6, 2) := by decide +kernel
theorem d17 : decode yB 17 = .ok (.sipush 255, 3) := by decide +kernel
theorem d20 : decode yB 20 = .ok (.if_icmp (.le) 6, 3) := by decide +kernel
theorem d26 : decode yB 26 = .ok (.aload_n 2, 1) := by decide +kernel
theorem d27 : decode yB 27 = .ok (.iload_n 3, 1) := by decide +kernel
theorem d28 : decode yB 28 = .ok (.iload 6, 2) := by decide +kernel
theorem d30 : decode yB 30 = .ok (.i2b, 1) := by decide +kernel
theorem d31 : decode yB 31 = .ok (.bastore, 1) := by decide +kernel
theorem d32 : decode yB 32 = .ok (.iinc 1 1, 3) := by decide +kernel
theorem d35 : decode yB 35 = .ok (.iinc 3 1, 3) := by decide +kernel
theorem d38 : decode yB 38 = .ok (.iinc 5 1, 3) := by decide +kernel
theorem d41 : decode yB 41 = .ok (.goto (-38), 3) := by decide +kernel
theorem d44 : decode yB 44 = .ok (.iload 4, 2) := by decide +kernel
theorem d46 : decode yB 46 = .ok (.ireturn, 1) := by decide +kernel
def site : List Cond := []
def tab : Cond := tabOf yN yB 7 (some .int) site
def P (b : Addr) (A : Cell) (d : Addr) (B : Cell) (o q len : Nat) (args : Array Value) (s : State) : Prop := args = #[.ref b, .int (Int32.ofNat o), .ref d, .int (Int32.ofNat q), .int (Int32.ofNat len)] ∧ Ch b A s ∧ Arr .byte d B s ∧ b ≠ d ∧ o + len ≤ A.slots.size ∧ q + len ≤ B.slots.size ∧ ∀ i, i < len → ¬ 255 < cv A (o + i)
def E (b : Addr) (A : Cell) (d : Addr) (B : Cell) (o q len : Nat) (r : Option Value) (s u : State) : Prop := r = some (.int (Int32.ofNat len)) ∧ ∃ B', Put d B' s u ∧ Laid B B' q (q + len) (fun j => Value.int (lo8 (cv A (o + (j - q)))))
/-- no char of the range above 255: len; the places written hold each char's low byte -/
theorem law (l : Launch) (b : Addr) (A : Cell) (d : Addr) (B : Cell) (o q len : Nat) : Law l yN 5 5 0 0 yB 7 (some .int) site (P b A d B o q len) (E b A d B o q len) (copyLocs d q len) 0 0 := by
  refine Law.of_walk (plainFor_of_name (by decide +kernel)) (by decide +kernel) (by decide +kernel) (by decide) (fun _ _ h => by rw [h.1]; rfl) (fun _ U U' hal hh h => ⟨h.1, h.2.1.mv hal hh, h.2.2.1.mv hal hh, h.2.2.2⟩) (fun r U U' V V' h1 hal h2 h => ⟨h.1, h.2.elim fun B' q => ⟨B', q.1.mv h1 h2, q.2⟩⟩) ?_
  intro p e s m args below meth c s₁ X0 hexec hbytes hml hret hlk hnm hown hh0 W hP
  obtain ⟨rfl, hA, hB, hne, l1, l2, hp⟩ := hP
  have c1 : Steps p.tables e below (s₁.setTop (entryFrame m #[.ref b, .int (Int32.ofNat o), .ref d, .int (Int32.ofNat q), .int (Int32.ofNat len)] 7)) (s₁.setTop (mkF m 0 #[.val (.ref b), .val (.int (Int32.ofNat o)), .val (.ref d), .val (.int (Int32.ofNat q)), .val (.int (Int32.ofNat len)), .unset, .unset] [])) := entry rfl
  have hA0 := hA.1.mv X0.warmed.alike hh0
  have hB0 := hB.mv X0.warmed.alike hh0
  have a31 := hA.1.2.2.2
  have c2 : Steps p.tables e below (s₁.setTop (entryFrame m #[.ref b, .int (Int32.ofNat o), .ref d, .int (Int32.ofNat q), .int (Int32.ofNat len)] 7)) (s₁.setTop (mkF m 3 #[.val (.ref b), .val (.int (Int32.ofNat o)), .val (.ref d), .val (.int (Int32.ofNat q)), .val (.int (Int32.ofNat len)), .val (.int 0), .unset] [])) := c1.trans (by
    refine iconstV X0.here hexec rfl 0 (hb hbytes d0) (by decide) ?_
    refine XS.istore X0.here hexec rfl (hb hbytes d1) rfl rfl ?_
    exact Steps.refl _)
  have loop : ∀ (r i : Nat), i + r = len → ∀ (z : Slot), (z = .unset ∨ ∃ w, z = .val w ∧ w.category = 1) → ∀ (Tl : State) (Bk : Cell), Stand p l e { frames := 0, locals := 0, cells := 0, slots := 0 } s m #[.ref b, .int (Int32.ofNat o), .ref d, .int (Int32.ofNat q), .int (Int32.ofNat len)] below meth c Tl ([] ++ copyLocs d q i) 0 0 → Put d Bk s₁ Tl → Laid B Bk q (q + i) (fun j => Value.int (lo8 (cv A (o + (j - q))))) →
      Steps p.tables e below (s₁.setTop (entryFrame m #[.ref b, .int (Int32.ofNat o), .ref d, .int (Int32.ofNat q), .int (Int32.ofNat len)] 7)) (Tl.setTop (mkF m 3 #[.val (.ref b), .val (.int (Int32.ofNat (o + i))), .val (.ref d), .val (.int (Int32.ofNat (q + i))), .val (.int (Int32.ofNat len)), .val (.int (Int32.ofNat i)), z] [])) → ∃ (T' : State) (B' : Cell) (z' : Slot), Stand p l e { frames := 0, locals := 0, cells := 0, slots := 0 } s m #[.ref b, .int (Int32.ofNat o), .ref d, .int (Int32.ofNat q), .int (Int32.ofNat len)] below meth c T' ([] ++ copyLocs d q len) 0 0 ∧ Put d B' s₁ T' ∧ Laid B B' q (q + len) (fun j => Value.int (lo8 (cv A (o + (j - q))))) ∧
      Steps p.tables e below (s₁.setTop (entryFrame m #[.ref b, .int (Int32.ofNat o), .ref d, .int (Int32.ofNat q), .int (Int32.ofNat len)] 7)) (T'.setTop (mkF m 3 #[.val (.ref b), .val (.int (Int32.ofNat (o + len))), .val (.ref d), .val (.int (Int32.ofNat (q + len))), .val (.int (Int32.ofNat len)), .val (.int (Int32.ofNat len)), z'] [])) := by
    intro r
    induction r with
    | zero =>
      intro i hi z hz Tl Bk Xl pl fl cl
      have hil : i = len := by omega
      rw [hil] at Xl fl cl
      exact ⟨Tl, Bk, z, Xl, pl, fl, cl⟩
    | succ r ih =>
      intro i hi z hz Tl Bk Xl pl fl cl
      have all := X0.warmed.alike.symm.trans Xl.warmed.alike
      have hAl := hA0.keep all (pl.other hne hA0.1)
      have hBk := hB0.like all pl.1 fl.1 fl.2.1 fl.2.2.1
      have hlt : q + i < Bk.slots.size := by rw [fl.2.2.1]; omega
      have c3 : Steps p.tables e below (s₁.setTop (entryFrame m #[.ref b, .int (Int32.ofNat o), .ref d, .int (Int32.ofNat q), .int (Int32.ofNat len)] 7)) (Tl.setTop (mkF m 12 #[.val (.ref b), .val (.int (Int32.ofNat (o + i))), .val (.ref d), .val (.int (Int32.ofNat (q + i))), .val (.int (Int32.ofNat len)), .val (.int (Int32.ofNat i)), z] [.int (Int32.ofNat (o + i)), .ref b])) := cl.trans (by
        refine XS.iload Xl.here hexec rfl (hb hbytes d3) rfl ?_
        refine XS.iload Xl.here hexec rfl (hb hbytes d5) rfl ?_
        refine XS.icmpNo Xl.here hexec rfl (hb hbytes d7) rfl (ii_ge_f (lt32 (by omega) (by omega))) ?_
        refine XS.aloadN Xl.here hexec rfl (hb hbytes d10) rfl rfl ?_
        refine XS.iloadN Xl.here hexec rfl (hb hbytes d11) rfl ?_
        exact Steps.refl _)
      have c4 : Steps p.tables e below (s₁.setTop (entryFrame m #[.ref b, .int (Int32.ofNat o), .ref d, .int (Int32.ofNat q), .int (Int32.ofNat len)] 7)) (Tl.setTop (mkF m 13 #[.val (.ref b), .val (.int (Int32.ofNat (o + i))), .val (.ref d), .val (.int (Int32.ofNat (q + i))), .val (.int (Int32.ofNat len)), .val (.int (Int32.ofNat i)), z] [.int (cv A (o + i))])) := c3.trans (by
        refine Xl.aget hexec hAl rfl (hA.get (i := o + i) (by omega)) rfl rfl (hb hbytes d12) ?_
        exact Steps.refl _)
      have c5 : Steps p.tables e below (s₁.setTop (entryFrame m #[.ref b, .int (Int32.ofNat o), .ref d, .int (Int32.ofNat q), .int (Int32.ofNat len)] 7)) (Tl.setTop (mkF m 15 #[.val (.ref b), .val (.int (Int32.ofNat (o + i))), .val (.ref d), .val (.int (Int32.ofNat (q + i))), .val (.int (Int32.ofNat len)), .val (.int (Int32.ofNat i)), .val (.int (cv A (o + i)))] [])) := c4.trans (by
        refine XS.istoreS Xl.here hexec rfl (hb hbytes d13) rfl rfl hz ?_
        exact Steps.refl _)
      have c6 : Steps p.tables e below (s₁.setTop (entryFrame m #[.ref b, .int (Int32.ofNat o), .ref d, .int (Int32.ofNat q), .int (Int32.ofNat len)] 7)) (Tl.setTop (mkF m 31 #[.val (.ref b), .val (.int (Int32.ofNat (o + i))), .val (.ref d), .val (.int (Int32.ofNat (q + i))), .val (.int (Int32.ofNat len)), .val (.int (Int32.ofNat i)), .val (.int (cv A (o + i)))] [.int (lo8 (cv A (o + i))), .int (Int32.ofNat (q + i)), .ref d])) := c5.trans (by
        refine XS.iload Xl.here hexec rfl (hb hbytes d15) rfl ?_
        refine sipushV Xl.here hexec rfl 255 (hb hbytes d17) (by decide) ?_
        refine XS.icmpYes Xl.here hexec rfl (pc0 := 20) rfl (hb hbytes d20) rfl (ii_le_t (hp i (by omega))) (by decide) rfl ?_
        refine XS.aloadN Xl.here hexec rfl (hb hbytes d26) rfl rfl ?_
        refine XS.iloadN Xl.here hexec rfl (hb hbytes d27) rfl ?_
        refine XS.iload Xl.here hexec rfl (hb hbytes d28) rfl ?_
        refine i2b Xl.here hexec rfl (hb hbytes d30) rfl ?_
        exact Steps.refl _)
      obtain ⟨T7, X7, p7, st7⟩ := Xl.aput hexec hBk rfl hlt rfl (fits_lo8 (cv A (o + i))) (g := (mkF m 31 #[.val (.ref b), .val (.int (Int32.ofNat (o + i))), .val (.ref d), .val (.int (Int32.ofNat (q + i))), .val (.int (Int32.ofNat len)), .val (.int (Int32.ofNat i)), .val (.int (cv A (o + i)))] [.int (lo8 (cv A (o + i))), .int (Int32.ofNat (q + i)), .ref d])) rfl (rest := []) rfl (hb hbytes d31)
      have c8 : Steps p.tables e below (s₁.setTop (entryFrame m #[.ref b, .int (Int32.ofNat o), .ref d, .int (Int32.ofNat q), .int (Int32.ofNat len)] 7)) (T7.setTop (mkF m 32 #[.val (.ref b), .val (.int (Int32.ofNat (o + i))), .val (.ref d), .val (.int (Int32.ofNat (q + i))), .val (.int (Int32.ofNat len)), .val (.int (Int32.ofNat i)), .val (.int (cv A (o + i)))] [])) := c6.trans (st7 _ (Steps.refl _))
      have c9 : Steps p.tables e below (s₁.setTop (entryFrame m #[.ref b, .int (Int32.ofNat o), .ref d, .int (Int32.ofNat q), .int (Int32.ofNat len)] 7)) (T7.setTop (mkF m 3 #[.val (.ref b), .val (.int (Int32.ofNat (o + i) + 1)), .val (.ref d), .val (.int (Int32.ofNat (q + i) + 1)), .val (.int (Int32.ofNat len)), .val (.int (Int32.ofNat i + 1)), .val (.int (cv A (o + i)))] [])) := c8.trans (by
        refine iincV X7.here hexec rfl 1 (hb hbytes d32) (by decide) rfl rfl ?_
        refine iincV X7.here hexec rfl 1 (hb hbytes d35) (by decide) rfl rfl ?_
        refine iincV X7.here hexec rfl 1 (hb hbytes d38) (by decide) rfl rfl ?_
        refine XS.goto X7.here hexec rfl (pc0 := 41) rfl (hb hbytes d41) (by decide) rfl ?_
        exact Steps.refl _)
      have c10 : Steps p.tables e below (s₁.setTop (entryFrame m #[.ref b, .int (Int32.ofNat o), .ref d, .int (Int32.ofNat q), .int (Int32.ofNat len)] 7)) (T7.setTop (mkF m 3 #[.val (.ref b), .val (.int (Int32.ofNat (o + (i + 1)))), .val (.ref d), .val (.int (Int32.ofNat (q + (i + 1)))), .val (.int (Int32.ofNat len)), .val (.int (Int32.ofNat (i + 1))), .val (.int (cv A (o + i)))] [])) := by
        have := c9
        rw [succ32, succ32, succ32] at this
        exact this
      exact ih (i + 1) (by omega) _ (Or.inr ⟨_, rfl, rfl⟩) T7 _ (by rw [copyLocs_step, ← List.append_assoc]; exact X7) (pl.trans p7) (fl.step (by omega) hlt (by simp)) c10
  obtain ⟨T9, B9, z9, X9, p9, f9, g9⟩ := loop len 0 (by omega) .unset (Or.inl rfl) s₁ B (by simpa [copyLocs] using X0) ⟨hB0.1, fun _ _ => rfl, rfl⟩ (Laid.zero _ _ _) c2
  have c11 : Steps p.tables e below (s₁.setTop (entryFrame m #[.ref b, .int (Int32.ofNat o), .ref d, .int (Int32.ofNat q), .int (Int32.ofNat len)] 7)) (T9.setTop (mkF m 46 #[.val (.ref b), .val (.int (Int32.ofNat (o + len))), .val (.ref d), .val (.int (Int32.ofNat (q + len))), .val (.int (Int32.ofNat len)), .val (.int (Int32.ofNat len)), z9] [.int (Int32.ofNat len)])) := g9.trans (by
    refine XS.iload X9.here hexec rfl (hb hbytes d3) rfl ?_
    refine XS.iload X9.here hexec rfl (hb hbytes d5) rfl ?_
    refine XS.icmpYes X9.here hexec rfl (pc0 := 7) rfl (hb hbytes d7) rfl (ii_ge_t (nlt32 (by omega) (Nat.le_refl _))) (by decide) rfl ?_
    refine XS.iload X9.here hexec rfl (hb hbytes d44) rfl ?_
    exact Steps.refl _)
  exact ⟨T9, some (.int (Int32.ofNat len)), _, _, _, X9, by simp, rfl, rfl, (fun h => by cases h), ⟨rfl, B9, p9.from hh0, f9⟩, fun fs hl => c11.trans (X9.ireturnOut hexec hret rfl (Or.inl rfl) (hb hbytes d46) hl)⟩
end Cmp5
namespace Cmp3
def yN : MethodName := ⟨"java/lang/StringUTF16", "compress", "([CII)[B"⟩
abbrev yB : ByteArray := jdk_52_method_16_code
theorem d0 : decode yB 0 = .ok (.iload_n 2, 1) := by decide +kernel
theorem d1 : decode yB 1 = .ok (.newarray .byte, 2) := by decide +kernel
theorem d3 : decode yB 3 = .ok (.astore_n 3, 1) := by decide +kernel
theorem d4 : decode yB 4 = .ok (.aload_n 0, 1) := by decide +kernel
theorem d5 : decode yB 5 = .ok (.iload_n 1, 1) := by decide +kernel
theorem d6 : decode yB 6 = .ok (.aload_n 3, 1) := by decide +kernel
theorem d7 : decode yB 7 = .ok (.iconst 0, 1) := by decide +kernel
theorem d8 : decode yB 8 = .ok (.iload_n 2, 1) := by decide +kernel
theorem d9 : decode yB 9 = .ok (.invokestatic 115, 3) := by decide +kernel
theorem d12 : decode yB 12 = .ok (.istore 4, 2) := by decide +kernel
theorem d14 : decode yB 14 = .ok (.iload 4, 2) := by decide +kernel
theorem d16 : decode yB 16 = .ok (.iload_n 2, 1) := by decide +kernel
theorem d17 : decode yB 17 = .ok (.if_icmp (.eq) 40, 3) := by decide +kernel
theorem d57 : decode yB 57 = .ok (.aload_n 3, 1) := by decide +kernel
theorem d58 : decode yB 58 = .ok (.areturn, 1) := by decide +kernel
def site : List Cond := [.arrayClass .byte, Cmp5.tab] ++ staticW U16 115 Cmp5.yN
def tab : Cond := tabOf yN yB 6 (some (.array .byte)) site
def P (b : Addr) (A : Cell) (o len : Nat) (args : Array Value) (s : State) : Prop := args = #[.ref b, .int (Int32.ofNat o), .int (Int32.ofNat len)] ∧ Ch b A s ∧ o + len ≤ A.slots.size ∧ len ≤ 536870912 ∧ ∀ i, i < len → ¬ 255 < cv A (o + i)
def E (b : Addr) (A : Cell) (o len : Nat) (r : Option Value) (s u : State) : Prop := NewArr .byte "[B" len (fun j => .int (lo8 (cv A (o + j)))) r s u ∧ u.heap.size = s.heap.size + 1
/-- no char of the range above 255: a new byte[] of their low bytes -/
theorem law (l : Launch) (b : Addr) (A : Cell) (o len : Nat) : Law l yN 3 3 1 18 yB 6 (some (.array .byte)) site (P b A o len) (E b A o len) [] 1 len := by
  refine Law.of_walk (plainFor_of_name (by decide +kernel)) (by decide +kernel) (by decide +kernel) (by decide) (fun _ _ h => by rw [h.1]; rfl) (fun _ U U' hal hh h => ⟨h.1, h.2.1.mv hal hh, h.2.2⟩) (fun r U U' V V' h1 hal h2 h => ⟨NewArr.mv r U U' V V' h1 hal h2 h.1, by rw [h1, h2]; exact h.2⟩) ?_
  intro p e s m args below meth c s₁ X0 hexec hbytes hml hret hlk hnm hown hh0 W hP
  obtain ⟨rfl, hA, l1, l2, hp⟩ := hP
  have a31 := hA.1.2.2.2
  have c1 : Steps p.tables e below (s₁.setTop (entryFrame m #[.ref b, .int (Int32.ofNat o), .int (Int32.ofNat len)] 6)) (s₁.setTop (mkF m 0 #[.val (.ref b), .val (.int (Int32.ofNat o)), .val (.int (Int32.ofNat len)), .unset, .unset, .unset] [])) := entry rfl
  have c2 : Steps p.tables e below (s₁.setTop (entryFrame m #[.ref b, .int (Int32.ofNat o), .int (Int32.ofNat len)] 6)) (s₁.setTop (mkF m 1 #[.val (.ref b), .val (.int (Int32.ofNat o)), .val (.int (Int32.ofNat len)), .unset, .unset, .unset] [.int (Int32.ofNat len)])) := c1.trans (by
    refine XS.iloadN X0.here hexec rfl (hb hbytes d0) rfl ?_
    exact Steps.refl _)
  obtain ⟨T3, B3, X3, ba3, bs3, bv3, bh3, bf3, st3⟩ := X0.anew hexec (atype := .byte) (wk W (.arrayClass .byte)) rfl (by show len * 1 ≤ _; omega) (by omega) (g := (mkF m 1 #[.val (.ref b), .val (.int (Int32.ofNat o)), .val (.int (Int32.ofNat len)), .unset, .unset, .unset] [.int (Int32.ofNat len)])) rfl (hb hbytes d1) (rest := []) rfl (Nat.le_refl _) (by show 0 + len ≤ len; omega)
  rw [hh0] at ba3 st3
  have kp3 : XT.Kept s T3 := (XT.Kept.of_eq hh0).push bh3
  have hA3 := hA.keep X3.warmed.alike (kp3 _ _ hA.1.1)
  have hne : b ≠ s.heap.size := hA.1.ne
  have c4 : Steps p.tables e below (s₁.setTop (entryFrame m #[.ref b, .int (Int32.ofNat o), .int (Int32.ofNat len)] 6)) (T3.setTop (mkF m 3 #[.val (.ref b), .val (.int (Int32.ofNat o)), .val (.int (Int32.ofNat len)), .unset, .unset, .unset] [.ref s.heap.size])) := c2.trans (st3 _ (Steps.refl _))
  have c5 : Steps p.tables e below (s₁.setTop (entryFrame m #[.ref b, .int (Int32.ofNat o), .int (Int32.ofNat len)] 6)) (T3.setTop (mkF m 9 #[.val (.ref b), .val (.int (Int32.ofNat o)), .val (.int (Int32.ofNat len)), .val (.ref s.heap.size), .unset, .unset] [.int (Int32.ofNat len), .int 0, .ref s.heap.size, .int (Int32.ofNat o), .ref b])) := c4.trans (by
    refine XS.astoreN X3.here hexec rfl (hb hbytes d3) rfl rfl rfl ?_
    refine XS.aloadN X3.here hexec rfl (hb hbytes d4) rfl rfl ?_
    refine XS.iloadN X3.here hexec rfl (hb hbytes d5) rfl ?_
    refine XS.aloadN X3.here hexec rfl (hb hbytes d6) rfl rfl ?_
    refine iconstV X3.here hexec rfl 0 (hb hbytes d7) (by decide) ?_
    refine XS.iloadN X3.here hexec rfl (hb hbytes d8) rfl ?_
    exact Steps.refl _)
  obtain ⟨v6, T6, X6, E6, g6⟩ := X3.callS hexec (Cmp5.law l b A s.heap.size B3 o 0 len) hown (wks W (staticW U16 115 Cmp5.yN)) (wk W Cmp5.tab) (W := 0) (Nat.le_of_ble_eq_true rfl) (Nat.le_of_ble_eq_true rfl) (Nat.le_refl _) (by show 0 + len + 0 ≤ len; omega) (g := (mkF m 9 #[.val (.ref b), .val (.int (Int32.ofNat o)), .val (.int (Int32.ofNat len)), .val (.ref s.heap.size), .unset, .unset] [.int (Int32.ofNat len), .int (Int32.ofNat 0), .ref s.heap.size, .int (Int32.ofNat o), .ref b])) rfl (by rw [hml]; rfl) c5 (argsL := [.ref b, .int (Int32.ofNat o), .ref s.heap.size, .int (Int32.ofNat 0), .int (Int32.ofNat len)]) (rest := []) rfl rfl (by show 2 * 0 + 0 ≤ _; decide) (hb hbytes d9) (⟨rfl, hA3, ba3, hne, l1, by rw [bs3]; simp, hp⟩)
  obtain ⟨rfl, B6, p6, f6⟩ := E6
  have c7 : Steps p.tables e below (s₁.setTop (entryFrame m #[.ref b, .int (Int32.ofNat o), .int (Int32.ofNat len)] 6)) (T6.setTop (mkF m 12 #[.val (.ref b), .val (.int (Int32.ofNat o)), .val (.int (Int32.ofNat len)), .val (.ref s.heap.size), .unset, .unset] [.int (Int32.ofNat len)])) := g6
  have c8 : Steps p.tables e below (s₁.setTop (entryFrame m #[.ref b, .int (Int32.ofNat o), .int (Int32.ofNat len)] 6)) (T6.setTop (mkF m 58 #[.val (.ref b), .val (.int (Int32.ofNat o)), .val (.int (Int32.ofNat len)), .val (.ref s.heap.size), .val (.int (Int32.ofNat len)), .unset] [.ref s.heap.size])) := c7.trans (by
    refine XS.istore X6.here hexec rfl (hb hbytes d12) rfl rfl ?_
    refine XS.iload X6.here hexec rfl (hb hbytes d14) rfl ?_
    refine XS.iloadN X6.here hexec rfl (hb hbytes d16) rfl ?_
    refine XS.icmpYes X6.here hexec rfl (pc0 := 17) rfl (hb hbytes d17) rfl (ii_eq_t rfl) (by decide) rfl ?_
    refine XS.aloadN X6.here hexec rfl (hb hbytes d57) rfl rfl ?_
    exact Steps.refl _)
  have X8 := X6.wide (L' := []) (cells' := 1) (slots' := len) (fun x hx hlt => by
    simp only [List.nil_append, copyLocs, List.mem_map, List.mem_range] at hx
    obtain ⟨i, -, rfl⟩ := hx
    exact absurd hlt (Nat.lt_irrefl _)) (Nat.le_refl _) (by omega)
  exact ⟨T6, some (.ref s.heap.size), _, _, _, X8, rfl, rfl, rfl, (fun h => by cases h), ⟨⟨rfl, B6, ba3.like (X3.warmed.alike.symm.trans X6.warmed.alike) p6.1 f6.1 f6.2.1 f6.2.2.1, f6.2.1.trans bv3, by rw [X6.warmed.alike.findClass, f6.1]; exact bf3, by rw [f6.2.2.1, bs3]; simp, fun j hj => by rw [f6.2.2.2 j, if_pos (by omega)]; rfl, kp3.put p6 (Nat.le_refl _)⟩, by rw [p6.2.2, bh3, hh0]; simp⟩, fun fs hl => c8.trans (X8.areturnOut hexec rfl hret rfl (hb hbytes d58) hl)⟩
end Cmp3
namespace CodL
def yN : MethodName := ⟨"java/lang/StringUTF16", "coderFromArrayLen", "([BI)B"⟩
abbrev yB : ByteArray := jdk_52_method_15_code
theorem d0 : decode yB 0 = .ok (.iload_n 1, 1) := by decide +kernel
theorem d1 : decode yB 1 = .ok (.aload_n 0, 1) := by decide +kernel
theorem d2 : decode yB 2 = .ok (.arraylength, 1) := by decide +kernel
theorem d3 : decode yB 3 = .ok (.isub, 1) := by decide +kernel
theorem d4 : decode yB 4 = .ok (.bipush 31, 2) := by decide +kernel
theorem d6 : decode yB 6 = .ok (.iushr, 1) := by decide +kernel
theorem d7 : decode yB 7 = .ok (.i2b, 1) := by decide +kernel
theorem d8 : decode yB 8 = .ok (.ireturn, 1) := by decide +kernel
def site : List Cond := []
def tab : Cond := tabOf yN yB 2 (some .byte) site
def P (d : Addr) (B : Cell) (args : Array Value) (s : State) : Prop := args = #[.ref d, .int (Int32.ofNat B.slots.size)] ∧ Arr .byte d B s
def E (r : Option Value) (s u : State) : Prop := XT.PureE (some (.int 0)) r s u
/-- an array as long as the number of chars: LATIN1 -/
theorem law (l : Launch) (d : Addr) (B : Cell) : Law l yN 2 2 0 0 yB 2 (some .byte) site (P d B) E [] 0 0 := by
  refine Law.of_walk (plainFor_of_name (by decide +kernel)) (by decide +kernel) (by decide +kernel) (by decide) (fun _ _ h => by rw [h.1]; rfl) (fun _ U U' hal hh h => ⟨h.1, h.2.mv hal hh⟩) (fun r U U' V V' h1 hal h2 h => XT.PureE.mv r U U' V V' h1 hal h2 h) ?_
  intro p e s m args below meth c s₁ X0 hexec hbytes hml hret hlk hnm hown hh0 W hP
  obtain ⟨rfl, hB⟩ := hP
  have hB0 := hB.mv X0.warmed.alike hh0
  have c1 : Steps p.tables e below (s₁.setTop (entryFrame m #[.ref d, .int (Int32.ofNat B.slots.size)] 2)) (s₁.setTop (mkF m 0 #[.val (.ref d), .val (.int (Int32.ofNat B.slots.size))] [])) := entry rfl
  have c2 : Steps p.tables e below (s₁.setTop (entryFrame m #[.ref d, .int (Int32.ofNat B.slots.size)] 2)) (s₁.setTop (mkF m 2 #[.val (.ref d), .val (.int (Int32.ofNat B.slots.size))] [.ref d, .int (Int32.ofNat B.slots.size)])) := c1.trans (by
    refine XS.iloadN X0.here hexec rfl (hb hbytes d0) rfl ?_
    refine XS.aloadN X0.here hexec rfl (hb hbytes d1) rfl rfl ?_
    exact Steps.refl _)
  have c3 : Steps p.tables e below (s₁.setTop (entryFrame m #[.ref d, .int (Int32.ofNat B.slots.size)] 2)) (s₁.setTop (mkF m 8 #[.val (.ref d), .val (.int (Int32.ofNat B.slots.size))] [.int (lo8 (ushr (Int32.ofNat B.slots.size - Int32.ofNat B.slots.size) 31))])) := c2.trans (by
    refine X0.alen hexec hB0 rfl rfl (hb hbytes d2) ?_
    refine XS.isub X0.here hexec rfl (hb hbytes d3) rfl ?_
    refine bipushV X0.here hexec rfl 31 (hb hbytes d4) (by decide) ?_
    refine iushr X0.here hexec rfl (hb hbytes d6) rfl ?_
    refine i2b X0.here hexec rfl (hb hbytes d7) rfl ?_
    exact Steps.refl _)
  have e0 : lo8 (ushr (Int32.ofNat B.slots.size - Int32.ofNat B.slots.size) 31) = 0 := by rw [Int32.sub_self]; decide
  rw [e0] at c3
  exact ⟨s₁, some (.int 0), _, _, _, X0, rfl, rfl, rfl, (fun h => by cases h), ⟨rfl, hh0⟩, fun fs hl => c3.trans (X0.ireturnOut hexec hret rfl (Or.inr (Or.inr (Or.inl rfl))) (hb hbytes d8) hl)⟩
end CodL
/-- the String at a is Latin-1 over a new byte[] (the heap's one new cell): the low bytes of the len chars of A from o on; every cell but a is kept -/
def Got (a : Addr) (D : Cell) (fV fC : Field) (A : Cell) (o len : Nat) (r : Option Value) (s u : State) : Prop := r = none ∧ ∃ D' V : Cell, Blank "java/lang/String" a D' u ∧ Same D D' [fV.slot, fC.slot] ∧ D'.slots[fV.slot]? = some (.ref s.heap.size) ∧ D'.slots[fC.slot]? = some (.int 0) ∧ Arr .byte s.heap.size V u ∧ V.vm = .none ∧ u.vm.findClass "[B" = some V.cls ∧ V.slots.size = len ∧ (∀ j, j < len → V.slots[j]? = some (.int (lo8 (cv A (o + j))))) ∧ (∀ (y : Addr) (c : Cell), y ≠ a → s.heap[y]? = some c → u.heap[y]? = some c) ∧ u.heap.size = s.heap.size + 1
theorem Got.mv {a : Addr} {D A : Cell} {fV fC : Field} {o len : Nat} : ∀ r (U U' V V' : State), U'.heap = U.heap → V.vm.Alike V'.vm → V'.heap = V.heap → Got a D fV fC A o len r U V → Got a D fV fC A o len r U' V' :=
  fun r U U' V V' h1 hal h2 ⟨e0, D', X, a1, a2, a3, a4, a5, a6, a7, a8, a9, a10, a11⟩ => ⟨e0, D', X, a1.mv hal h2, a2, by rw [h1]; exact a3, a4, by rw [h1]; exact a5.mv hal h2, a6, by rw [hal.findClass]; exact a7, a8, a9, by rw [h1, h2]; exact a10, by rw [h1, h2]; exact a11⟩
namespace New4
def yN : MethodName := ⟨"java/lang/String", "<init>", "([CIILjava/lang/Void;)V"⟩
abbrev yB : ByteArray := jdk_42_method_149_code
theorem d0 : decode yB 0 = .ok (.aload_n 0, 1) := by decide +kernel
theorem d1 : decode yB 1 = .ok (.invokespecial 1, 3) := by decide +kernel
theorem d4 : decode yB 4 = .ok (.iload_n 3, 1) := by decide +kernel
theorem d5 : decode yB 5 = .ok (.ifCond (.ne) 22, 3) := by decide +kernel
theorem d27 : decode yB 27 = .ok (.getstatic 38, 3) := by decide +kernel
theorem d30 : decode yB 30 = .ok (.ifCond (.eq) 28, 3) := by decide +kernel
theorem d33 : decode yB 33 = .ok (.aload_n 1, 1) := by decide +kernel
theorem d34 : decode yB 34 = .ok (.iload_n 2, 1) := by decide +kernel
theorem d35 : decode yB 35 = .ok (.iload_n 3, 1) := by decide +kernel
theorem d36 : decode yB 36 = .ok (.invokestatic 177, 3) := by decide +kernel
theorem d39 : decode yB 39 = .ok (.astore 5, 2) := by decide +kernel
theorem d41 : decode yB 41 = .ok (.aload_n 0, 1) := by decide +kernel
theorem d42 : decode yB 42 = .ok (.aload 5, 2) := by decide +kernel
theorem d44 : decode yB 44 = .ok (.iload_n 3, 1) := by decide +kernel
theorem d45 : decode yB 45 = .ok (.invokestatic 47, 3) := by decide +kernel
theorem d48 : decode yB 48 = .ok (.putfield 15, 3) := by decide +kernel
theorem d51 : decode yB 51 = .ok (.aload_n 0, 1) := by decide +kernel
theorem d52 : decode yB 52 = .ok (.aload 5, 2) := by decide +kernel
theorem d54 : decode yB 54 = .ok (.putfield 9, 3) := by decide +kernel
theorem d57 : decode yB 57 = .ok (.return_, 1) := by decide +kernel
def site : List Cond := [.fieldLink "java/lang/String" 38 "java/lang/String" "COMPACT_STRINGS" "Z", Cmp3.tab, CodL.tab, .laysFinal "java/lang/String" "java/lang/String" "value" "[B", .fieldLink "java/lang/String" 9 "java/lang/String" "value" "[B", .laysFinal "java/lang/String" "java/lang/String" "coder" "B", .fieldLink "java/lang/String" 15 "java/lang/String" "coder" "B"] ++ objW "java/lang/String" 1 ++ staticW "java/lang/String" 177 Cmp3.yN ++ staticW "java/lang/String" 47 CodL.yN
def tab : Cond := tabOf yN yB 6 none site
def P (a : Addr) (D : Cell) (fV fC : Field) (b : Addr) (A : Cell) (z : Int32) (o len : Nat) (args : Array Value) (s : State) : Prop := args = #[.ref a, .ref b, .int (Int32.ofNat o), .int (Int32.ofNat len), .null] ∧ Blank "java/lang/String" a D s ∧ Found "java/lang/String" "value" "[B" fV s ∧ Found "java/lang/String" "coder" "B" fC s ∧ Ch b A s ∧ StaticIs s "java/lang/String" "COMPACT_STRINGS" "Z" (.int z) ∧ ¬ z = 0 ∧ 0 < len ∧ o + len ≤ A.slots.size ∧ len ≤ 536870912 ∧ ∀ i, i < len → ¬ 255 < cv A (o + i)
def E (a : Addr) (D : Cell) (fV fC : Field) (A : Cell) (o len : Nat) (r : Option Value) (s u : State) : Prop := Got a D fV fC A o len r s u
/-- len > 0, no char of the range above 255: a Latin-1 String of their low bytes -/
theorem law (l : Launch) (a : Addr) (D : Cell) (fV fC : Field) (b : Addr) (A : Cell) (z : Int32) (o len : Nat) : Law l yN 5 4 2 35 yB 6 none site (P a D fV fC b A z o len) (E a D fV fC A o len) [⟨a, fC.slot⟩, ⟨a, fV.slot⟩] 1 len := by
  refine Law.of_walk (plainFor_of_name (by decide +kernel)) (by decide +kernel) (by decide +kernel) (by decide) (fun _ _ h => by rw [h.1]; rfl) (fun _ U U' hal hh h => ⟨h.1, h.2.1.mv hal hh, h.2.2.1.al hal, h.2.2.2.1.al hal, h.2.2.2.2.1.mv hal hh, h.2.2.2.2.2.1.there hal hh, h.2.2.2.2.2.2⟩) (fun r U U' V V' h1 hal h2 h => Got.mv r U U' V V' h1 hal h2 h) ?_
  intro p e s m args below meth c s₁ X0 hexec hbytes hml hret hlk hnm hown hh0 W hP
  obtain ⟨rfl, hB, f1, f2, hA, s1, hz, l0, l1, l2, hp⟩ := hP
  have a31 := hA.1.2.2.2
  have c1 : Steps p.tables e below (s₁.setTop (entryFrame m #[.ref a, .ref b, .int (Int32.ofNat o), .int (Int32.ofNat len), .null] 6)) (s₁.setTop (mkF m 0 #[.val (.ref a), .val (.ref b), .val (.int (Int32.ofNat o)), .val (.int (Int32.ofNat len)), .val .null, .unset] [])) := entry rfl
  have c2 : Steps p.tables e below (s₁.setTop (entryFrame m #[.ref a, .ref b, .int (Int32.ofNat o), .int (Int32.ofNat len), .null] 6)) (s₁.setTop (mkF m 1 #[.val (.ref a), .val (.ref b), .val (.int (Int32.ofNat o)), .val (.int (Int32.ofNat len)), .val .null, .unset] [.ref a])) := c1.trans (by
    refine XS.aloadN X0.here hexec rfl (hb hbytes d0) rfl rfl ?_
    exact Steps.refl _)
  obtain ⟨T3, X3, q3, st3⟩ := X0.oinit hexec hown (wks W (objW "java/lang/String" 1)) (g := (mkF m 1 #[.val (.ref a), .val (.ref b), .val (.int (Int32.ofNat o)), .val (.int (Int32.ofNat len)), .val .null, .unset] [.ref a])) rfl (by rw [hml]; rfl) (rest := []) rfl (hb hbytes d1) (W := 0) (by show 2 * 0 + 0 ≤ _; decide) (Nat.le_of_ble_eq_true rfl) (Nat.le_of_ble_eq_true rfl)
  have hh3 := q3.trans hh0
  have c4 : Steps p.tables e below (s₁.setTop (entryFrame m #[.ref a, .ref b, .int (Int32.ofNat o), .int (Int32.ofNat len), .null] 6)) (T3.setTop (mkF m 27 #[.val (.ref a), .val (.ref b), .val (.int (Int32.ofNat o)), .val (.int (Int32.ofNat len)), .val .null, .unset] [])) := (c2.trans (st3 _ (Steps.refl _))).trans (by
    refine XS.iloadN X3.here hexec rfl (hb hbytes d4) rfl ?_
    refine XS.ifYes X3.here hexec rfl (pc0 := 5) rfl (hb hbytes d5) rfl (i0_ne_t (nz32 (by omega) l0)) (by decide) rfl ?_
    exact Steps.refl _)
  obtain ⟨T5, X5, q5, st5⟩ := X3.sget hexec hown (wk W (.fieldLink "java/lang/String" 38 "java/lang/String" "COMPACT_STRINGS" "Z")) s1 (fun _ _ h => by rw [hh3]; exact h) (g := (mkF m 27 #[.val (.ref a), .val (.ref b), .val (.int (Int32.ofNat o)), .val (.int (Int32.ofNat len)), .val .null, .unset] [])) rfl (hb hbytes d27)
  have hh5 := q5.trans hh3
  have c6 : Steps p.tables e below (s₁.setTop (entryFrame m #[.ref a, .ref b, .int (Int32.ofNat o), .int (Int32.ofNat len), .null] 6)) (T5.setTop (mkF m 30 #[.val (.ref a), .val (.ref b), .val (.int (Int32.ofNat o)), .val (.int (Int32.ofNat len)), .val .null, .unset] [.int z])) := c4.trans (st5 _ (Steps.refl _))
  have c7 : Steps p.tables e below (s₁.setTop (entryFrame m #[.ref a, .ref b, .int (Int32.ofNat o), .int (Int32.ofNat len), .null] 6)) (T5.setTop (mkF m 36 #[.val (.ref a), .val (.ref b), .val (.int (Int32.ofNat o)), .val (.int (Int32.ofNat len)), .val .null, .unset] [.int (Int32.ofNat len), .int (Int32.ofNat o), .ref b])) := c6.trans (by
    refine XS.ifNo X5.here hexec rfl (hb hbytes d30) rfl (i0_eq_f hz) ?_
    refine XS.aloadN X5.here hexec rfl (hb hbytes d33) rfl rfl ?_
    refine XS.iloadN X5.here hexec rfl (hb hbytes d34) rfl ?_
    refine XS.iloadN X5.here hexec rfl (hb hbytes d35) rfl ?_
    exact Steps.refl _)
  obtain ⟨v8, T8, X8, E8, g8⟩ := X5.callS hexec (Cmp3.law l b A o len) hown (wks W (staticW "java/lang/String" 177 Cmp3.yN)) (wk W Cmp3.tab) (W := 0) (Nat.le_of_ble_eq_true rfl) (Nat.le_of_ble_eq_true rfl) (Nat.le_refl _) (by show 0 + len ≤ len; omega) (g := (mkF m 36 #[.val (.ref a), .val (.ref b), .val (.int (Int32.ofNat o)), .val (.int (Int32.ofNat len)), .val .null, .unset] [.int (Int32.ofNat len), .int (Int32.ofNat o), .ref b])) rfl (by rw [hml]; rfl) c7 (argsL := [.ref b, .int (Int32.ofNat o), .int (Int32.ofNat len)]) (rest := []) rfl rfl (by show 2 * 0 + 0 ≤ _; decide) (hb hbytes d36) (⟨rfl, hA.mv X5.warmed.alike hh5, l1, l2, hp⟩)
  obtain ⟨e8, z8⟩ := E8
  obtain ⟨rfl, N, n1, n2, n3, n4, n5, n6⟩ := NewArr.mv _ T5 s _ _ hh5.symm (Vm.Alike.refl _) rfl e8
  rw [hh5] at z8
  have hB1 := hB.keep X8.warmed.alike (n6 _ _ hB.1)
  have hne : s.heap.size ≠ a := (Nat.ne_of_lt (Array.getElem?_eq_some_iff.mp hB.1).1).symm
  have c9 : Steps p.tables e below (s₁.setTop (entryFrame m #[.ref a, .ref b, .int (Int32.ofNat o), .int (Int32.ofNat len), .null] 6)) (T8.setTop (mkF m 39 #[.val (.ref a), .val (.ref b), .val (.int (Int32.ofNat o)), .val (.int (Int32.ofNat len)), .val .null, .unset] [.ref s.heap.size])) := g8
  have c10 : Steps p.tables e below (s₁.setTop (entryFrame m #[.ref a, .ref b, .int (Int32.ofNat o), .int (Int32.ofNat len), .null] 6)) (T8.setTop (mkF m 45 #[.val (.ref a), .val (.ref b), .val (.int (Int32.ofNat o)), .val (.int (Int32.ofNat len)), .val .null, .val (.ref s.heap.size)] [.int (Int32.ofNat N.slots.size), .ref s.heap.size, .ref a])) := by
    have hc : Steps p.tables e below (s₁.setTop (entryFrame m #[.ref a, .ref b, .int (Int32.ofNat o), .int (Int32.ofNat len), .null] 6)) (T8.setTop (mkF m 45 #[.val (.ref a), .val (.ref b), .val (.int (Int32.ofNat o)), .val (.int (Int32.ofNat len)), .val .null, .val (.ref s.heap.size)] [.int (Int32.ofNat len), .ref s.heap.size, .ref a])) := c9.trans (by
      refine XS.astore X8.here hexec rfl (hb hbytes d39) rfl rfl rfl ?_
      refine XS.aloadN X8.here hexec rfl (hb hbytes d41) rfl rfl ?_
      refine XS.aload X8.here hexec rfl (hb hbytes d42) rfl rfl ?_
      refine XS.iloadN X8.here hexec rfl (hb hbytes d44) rfl ?_
      exact Steps.refl _)
    rw [n4]; exact hc
  obtain ⟨v11, T11, X11, E11, g11⟩ := X8.callS hexec (CodL.law l s.heap.size N) hown (wks W (staticW "java/lang/String" 47 CodL.yN)) (wk W CodL.tab) (W := 1) (Nat.le_of_ble_eq_true rfl) (Nat.le_of_ble_eq_true rfl) (Nat.le_refl _) (by show 0 + len + 0 ≤ len; omega) (g := (mkF m 45 #[.val (.ref a), .val (.ref b), .val (.int (Int32.ofNat o)), .val (.int (Int32.ofNat len)), .val .null, .val (.ref s.heap.size)] [.int (Int32.ofNat N.slots.size), .ref s.heap.size, .ref a])) rfl (by rw [hml]; rfl) c10 (argsL := [.ref s.heap.size, .int (Int32.ofNat N.slots.size)]) (rest := [.ref a]) rfl rfl (by show 2 * 0 + (1 + 0) ≤ _; decide) (hb hbytes d45) (⟨rfl, n1⟩)
  obtain ⟨rfl, q11⟩ := E11
  have hB11 := hB1.mv (X8.warmed.alike.symm.trans X11.warmed.alike) q11
  have c12 : Steps p.tables e below (s₁.setTop (entryFrame m #[.ref a, .ref b, .int (Int32.ofNat o), .int (Int32.ofNat len), .null] 6)) (T11.setTop (mkF m 48 #[.val (.ref a), .val (.ref b), .val (.int (Int32.ofNat o)), .val (.int (Int32.ofNat len)), .val .null, .val (.ref s.heap.size)] [.int 0, .ref a])) := g11
  obtain ⟨T13, X13, p13, bl13, sl13, st13⟩ := X11.finit hexec hown (wk W (.fieldLink "java/lang/String" 15 "java/lang/String" "coder" "B")) (Or.inr ⟨_, (wk W (.laysFinal "java/lang/String" "java/lang/String" "coder" "B"))⟩) (Or.inl ⟨rfl, hnm⟩) f2 (Or.inl rfl) hB11 (t := .byte) (by decide +kernel) rfl (g := (mkF m 48 #[.val (.ref a), .val (.ref b), .val (.int (Int32.ofNat o)), .val (.int (Int32.ofNat len)), .val .null, .val (.ref s.heap.size)] [.int 0, .ref a])) rfl (rest := []) rfl (hb hbytes d48)
  have c14 : Steps p.tables e below (s₁.setTop (entryFrame m #[.ref a, .ref b, .int (Int32.ofNat o), .int (Int32.ofNat len), .null] 6)) (T13.setTop (mkF m 54 #[.val (.ref a), .val (.ref b), .val (.int (Int32.ofNat o)), .val (.int (Int32.ofNat len)), .val .null, .val (.ref s.heap.size)] [.ref s.heap.size, .ref a])) := (c12.trans (st13 _ (Steps.refl _))).trans (by
    refine XS.aloadN X13.here hexec rfl (hb hbytes d51) rfl rfl ?_
    refine XS.aload X13.here hexec rfl (hb hbytes d52) rfl rfl ?_
    exact Steps.refl _)
  obtain ⟨T15, X15, p15, bl15, sl15, st15⟩ := X13.finit hexec hown (wk W (.fieldLink "java/lang/String" 9 "java/lang/String" "value" "[B")) (Or.inr ⟨_, (wk W (.laysFinal "java/lang/String" "java/lang/String" "value" "[B"))⟩) (Or.inl ⟨rfl, hnm⟩) f1 (Or.inl rfl) bl13 (t := (.array .byte)) (by decide +kernel) rfl (g := (mkF m 54 #[.val (.ref a), .val (.ref b), .val (.int (Int32.ofNat o)), .val (.int (Int32.ofNat len)), .val .null, .val (.ref s.heap.size)] [.ref s.heap.size, .ref a])) rfl (rest := []) rfl (hb hbytes d54)
  have c16 : Steps p.tables e below (s₁.setTop (entryFrame m #[.ref a, .ref b, .int (Int32.ofNat o), .int (Int32.ofNat len), .null] 6)) (T15.setTop (mkF m 57 #[.val (.ref a), .val (.ref b), .val (.int (Int32.ofNat o)), .val (.int (Int32.ofNat len)), .val .null, .val (.ref s.heap.size)] [])) := c14.trans (st15 _ (Steps.refl _))
  have ap := apart (Or.inr ⟨_, (wk W (.laysFinal "java/lang/String" "java/lang/String" "value" "[B"))⟩) (Or.inr ⟨_, (wk W (.laysFinal "java/lang/String" "java/lang/String" "coder" "B"))⟩) f1 f2 (t₁ := .array .byte) (t₂ := .byte) (by decide +kernel) (by decide +kernel) (by decide)
  have al := X8.warmed.alike.symm.trans X15.warmed.alike
  have n7 : T11.heap[s.heap.size]? = some N := by rw [q11]; exact n1.1
  exact ⟨T15, none, _, _, _, X15, by simp, rfl, by omega, (fun _ => rfl), ⟨rfl, _, N, bl15, ((Same.refl D _).set _ (by simp)).set _ (by simp), sl15, (Cell.slots_setSlot_ne _ ap).trans sl13, n1.keep al (p15.other hne (p13.other hne n7)), n2, by rw [al.findClass]; exact n3, n4, n5, fun y c h1 h2 => p15.other h1 (p13.other h1 (by rw [q11]; exact n6 y c h2)), by rw [p15.2.2, p13.2.2, q11]; exact z8⟩, fun fs hl => c16.trans (X15.returnOut hexec hret (hb hbytes d57) hl)⟩
end New4
namespace New1
def yN : MethodName := ⟨"java/lang/String", "<init>", "([C)V"⟩
abbrev yB : ByteArray := jdk_42_method_3_code
theorem d0 : decode yB 0 = .ok (.aload_n 0, 1) := by decide +kernel
theorem d1 : decode yB 1 = .ok (.aload_n 1, 1) := by decide +kernel
theorem d2 : decode yB 2 = .ok (.iconst 0, 1) := by decide +kernel
theorem d3 : decode yB 3 = .ok (.aload_n 1, 1) := by decide +kernel
theorem d4 : decode yB 4 = .ok (.arraylength, 1) := by decide +kernel
theorem d5 : decode yB 5 = .ok (.aconst_null, 1) := by decide +kernel
theorem d6 : decode yB 6 = .ok (.invokespecial 27, 3) := by decide +kernel
theorem d9 : decode yB 9 = .ok (.return_, 1) := by decide +kernel
def site : List Cond := [New4.tab] ++ initW "java/lang/String" 27 New4.yN
def tab : Cond := tabOf yN yB 2 none site
def P (a : Addr) (D : Cell) (fV fC : Field) (b : Addr) (A : Cell) (z : Int32) (args : Array Value) (s : State) : Prop := args = #[.ref a, .ref b] ∧ Blank "java/lang/String" a D s ∧ Found "java/lang/String" "value" "[B" fV s ∧ Found "java/lang/String" "coder" "B" fC s ∧ Ch b A s ∧ StaticIs s "java/lang/String" "COMPACT_STRINGS" "Z" (.int z) ∧ ¬ z = 0 ∧ 0 < A.slots.size ∧ A.slots.size ≤ 536870912 ∧ ∀ i, i < A.slots.size → ¬ 255 < cv A i
def E (a : Addr) (D : Cell) (fV fC : Field) (A : Cell) (r : Option Value) (s u : State) : Prop := Got a D fV fC A 0 A.slots.size r s u
/-- new String(chars), not empty, no char above 255: a Latin-1 String of their low bytes -/
theorem law (l : Launch) (a : Addr) (D : Cell) (fV fC : Field) (b : Addr) (A : Cell) (z : Int32) : Law l yN 2 1 3 52 yB 2 none site (P a D fV fC b A z) (E a D fV fC A) [⟨a, fC.slot⟩, ⟨a, fV.slot⟩] 1 A.slots.size := by
  refine Law.of_walk (plainFor_of_name (by decide +kernel)) (by decide +kernel) (by decide +kernel) (by decide) (fun _ _ h => by rw [h.1]; rfl) (fun _ U U' hal hh h => ⟨h.1, h.2.1.mv hal hh, h.2.2.1.al hal, h.2.2.2.1.al hal, h.2.2.2.2.1.mv hal hh, h.2.2.2.2.2.1.there hal hh, h.2.2.2.2.2.2⟩) (fun r U U' V V' h1 hal h2 h => Got.mv r U U' V V' h1 hal h2 h) ?_
  intro p e s m args below meth c s₁ X0 hexec hbytes hml hret hlk hnm hown hh0 W hP
  obtain ⟨rfl, hB, f1, f2, hA, s1, hz, l0, l2, hp⟩ := hP
  have c1 : Steps p.tables e below (s₁.setTop (entryFrame m #[.ref a, .ref b] 2)) (s₁.setTop (mkF m 0 #[.val (.ref a), .val (.ref b)] [])) := entry rfl
  have c2 : Steps p.tables e below (s₁.setTop (entryFrame m #[.ref a, .ref b] 2)) (s₁.setTop (mkF m 6 #[.val (.ref a), .val (.ref b)] [.null, .int (Int32.ofNat A.slots.size), .int 0, .ref b, .ref a])) := c1.trans (by
    refine XS.aloadN X0.here hexec rfl (hb hbytes d0) rfl rfl ?_
    refine XS.aloadN X0.here hexec rfl (hb hbytes d1) rfl rfl ?_
    refine iconstV X0.here hexec rfl 0 (hb hbytes d2) (by decide) ?_
    refine XS.aloadN X0.here hexec rfl (hb hbytes d3) rfl rfl ?_
    refine X0.alen hexec (hA.1.mv X0.warmed.alike hh0) rfl rfl (hb hbytes d4) ?_
    refine XS.aconstNull X0.here hexec rfl (hb hbytes d5) ?_
    exact Steps.refl _)
  obtain ⟨v3, T3, X3, E3, g3⟩ := X0.callN hexec (New4.law l a D fV fC b A z 0 A.slots.size) rfl hown (wks W (initW "java/lang/String" 27 New4.yN)) (W New4.tab (by simp only [site, List.mem_cons, List.mem_append, true_or, or_true])) (W := 0) (Nat.le_of_ble_eq_true rfl) (Nat.le_of_ble_eq_true rfl) (Nat.le_refl _) (by show 0 + A.slots.size ≤ A.slots.size; omega) (g := (mkF m 6 #[.val (.ref a), .val (.ref b)] [.null, .int (Int32.ofNat A.slots.size), .int (Int32.ofNat 0), .ref b, .ref a])) rfl (by rw [hml]; rfl) c2 (argsL := [.ref b, .int (Int32.ofNat 0), .int (Int32.ofNat A.slots.size), .null]) (rest := []) rfl rfl (by show 2 * 0 + 0 ≤ _; decide) (hb hbytes d6) (⟨rfl, hB.mv X0.warmed.alike hh0, f1.al X0.warmed.alike, f2.al X0.warmed.alike, hA.mv X0.warmed.alike hh0, s1.there X0.warmed.alike hh0, hz, l0, by omega, l2, fun i hi => by rw [Nat.zero_add]; exact hp i hi⟩)
  have e0 := Got.mv _ s₁ s _ _ hh0.symm (Vm.Alike.refl _) rfl E3
  obtain rfl := e0.1
  have c4 : Steps p.tables e below (s₁.setTop (entryFrame m #[.ref a, .ref b] 2)) (T3.setTop (mkF m 9 #[.val (.ref a), .val (.ref b)] [])) := g3
  exact ⟨T3, none, _, _, _, X3, by simp, rfl, by omega, (fun _ => rfl), e0, fun fs hl => c4.trans (X3.returnOut hexec hret (hb hbytes d9) hl)⟩
theorem pays {l : Launch} {R : Room} {p : Program} {e : Env} {below : List Frame} {s : State} {sargs : Array Value} {len W : Nat} (a : Addr) (D : Cell) (fV fC : Field) (b : Addr) (A : Cell) (z : Int32) (htab : tab.before sargs s = true) (hfr : 4 ≤ R.frames) (hlo : W + 65 ≤ R.locals) :
    Back l R p e below s sargs yN len W (fun A₁ a₁ => A₁.cells + 1 ≤ R.cells ∧ A₁.slots + A.slots.size ≤ R.slots ∧ P a D fV fC b A z a₁ A₁.U) (fun A₁ _ v₁ B₁ => E a D fV fC A v₁ A₁.U B₁.U ∧ B₁.locs = A₁.locs ++ [⟨a, fC.slot⟩, ⟨a, fV.slot⟩] ∧ B₁.cells = A₁.cells + 1 ∧ B₁.slots = A₁.slots + A.slots.size) :=
  (law l a D fV fC b A z).pays htab hfr (by omega)
end New1
end StrChars
namespace StrChars.Road
open Jvm Sem ClassFile Op Lib Jvm.Stand Jvm.Free Jvm.Free.XT
open Jvm.Lib.Cold (StaticIs)
abbrev ST : String := "java/lang/String"
/-- every table word that New1's law asks, flat -/
abbrev words : List Jvm.Cond := [.code New1.yN New1.yB 2 none, .initialized ST, .methodLink ST 27 New4.yN, .instanceMethod New4.yN,
  .code New4.yN New4.yB 6 none, .fieldLink ST 38 ST "COMPACT_STRINGS" "Z", .laysFinal ST ST "value" "[B", .fieldLink ST 9 ST "value" "[B", .laysFinal ST ST "coder" "B", .fieldLink ST 15 ST "coder" "B",
  .methodLink ST 1 Lib.objectInit, .instanceMethod Lib.objectInit, .code Lib.objectInit ⟨#[0xb1]⟩ 1 none, .methodLink ST 177 Cmp3.yN, .static Cmp3.yN, .methodLink ST 47 CodL.yN, .static CodL.yN,
  .code Cmp3.yN Cmp3.yB 6 (some (.array .byte)), .initialized U16, .arrayClass .byte, .methodLink U16 115 Cmp5.yN, .static Cmp5.yN, .code Cmp5.yN Cmp5.yB 7 (some .int), .code CodL.yN CodL.yB 2 (some .byte)]
theorem tab_of {a : Array Value} {s : State} (h : ∀ w ∈ words, w.before a s = true) : New1.tab.before a s = true := by
  have h5 : Cmp5.tab.before a s = true := unparts (wk h (.code Cmp5.yN Cmp5.yB 7 (some .int))) (wks h (.initialized Cmp5.yN.cls :: Cmp5.site))
  have hc : CodL.tab.before a s = true := unparts (wk h (.code CodL.yN CodL.yB 2 (some .byte))) (wks h (.initialized CodL.yN.cls :: CodL.site))
  have q5 : ∀ w ∈ Cmp5.tab :: words, w.before a s = true := fun w hw => (List.mem_cons.mp hw).elim (fun e => e ▸ h5) (h w)
  have h3 : Cmp3.tab.before a s = true := unparts (wk q5 (.code Cmp3.yN Cmp3.yB 6 (some (.array .byte)))) (wks q5 (.initialized Cmp3.yN.cls :: Cmp3.site))
  have q3 : ∀ w ∈ Cmp3.tab :: CodL.tab :: words, w.before a s = true := fun w hw => (List.mem_cons.mp hw).elim (fun e => e ▸ h3) fun hw => (List.mem_cons.mp hw).elim (fun e => e ▸ hc) (h w)
  have h4 : New4.tab.before a s = true := unparts (wk q3 (.code New4.yN New4.yB 6 none)) (wks q3 (.initialized New4.yN.cls :: New4.site))
  have q4 : ∀ w ∈ New4.tab :: words, w.before a s = true := fun w hw => (List.mem_cons.mp hw).elim (fun e => e ▸ h4) (h w)
  exact unparts (wk q4 (.code New1.yN New1.yB 2 none)) (wks q4 (.initialized New1.yN.cls :: New1.site))
/-- the words ride from the start Z to the walk's own state -/
theorem moved {Z s : State} {a0 args : Array Value} (hZ : Z.Warmed39 s.vm) (hw : ∀ d ∈ words, d.before a0 Z = true) : ∀ d ∈ words, d.before args s = true := fun d hd => by
  have q := hw d hd
  have t : ∀ d ∈ words, d = .arrayClass .byte ∨ (d.onTables && d.keepsFace) = true := by decide +kernel
  rcases t d hd with rfl | t
  · exact RoadKit.mvA hZ q
  · exact RoadKit.mv hZ q t
/-- WHAT COMES BACK, over the tables of the start Z: h the heap at the call, h' behind it -/
def Q (Z : State) (x : Addr) (A : Cell) (h : Heap) (v : Option Value) (h' : Heap) (L : List Loc) : Prop := v = none ∧ (∀ y ∈ L, y.base = x) ∧ RoadKit.Keep h h' [x] ∧ h'.size = h.size + 1 ∧ RoadKit.Exa Z h' x ST ∧ RoadKit.Fld Z h' x ST "value" "[B" (.ref h.size) ∧ RoadKit.Fld Z h' x ST "coder" "B" (.int 0) ∧
  (∃ V : Cell, RoadKit.Arr Z h' h.size V .byte ∧ V.vm = .none ∧ Z.vm.findClass "[B" = some V.cls ∧ V.slots.size = A.slots.size ∧ ∀ j, j < A.slots.size → V.slots[j]? = some (.int (lo8 (cv A j)))) ∧
  ∀ (O n d : String) (w : Value), RoadKit.Fld Z h x O n d w → RoadKit.slotOf Z O n d ≠ RoadKit.slotOf Z ST "value" "[B" → RoadKit.slotOf Z O n d ≠ RoadKit.slotOf Z ST "coder" "B" → RoadKit.Fld Z h' x O n d w
/-- **new String(chars) AT A CALL, IN THE ROAD'S FORM**: for specialBack behind newO: x the fresh String, b the char[] with the cell A -/
theorem back {p : Program} {l : Launch} {e : Env} {R : Room} {s : State} {args : Array Value} {below : List Frame} {len W : Nat} {Z : State} {a0 : Array Value} {h : Heap} (hZ : Z.Warmed39 s.vm) (hw : ∀ d ∈ words, d.before a0 Z = true) {kI : Nat} (wi : (Jvm.Cond.instantiable ST kI).before a0 Z = true)
    {x b : Addr} {A : Cell} {z : Int32} {v0 c0 : Value} (E : RoadKit.Exa Z h x ST) (V : RoadKit.Fld Z h x ST "value" "[B" v0) (C : RoadKit.Fld Z h x ST "coder" "B" c0) (K : RoadKit.Arr Z h b A .char) (hty : Typed .char A) (S : RoadKit.Sta Z h ST "COMPACT_STRINGS" "Z" (.int z)) (hz : ¬ z = 0)
    (l0 : 0 < A.slots.size) (l2 : A.slots.size ≤ 536870912) (hp : ∀ i, i < A.slots.size → ¬ 255 < cv A i) (hfr : 4 ≤ R.frames) (hlo : W + 65 ≤ R.locals) :
    Back l R p e below s args New1.yN len W (fun P a => a = #[.ref x, .ref b] ∧ P.U.heap = h ∧ P.cells + 1 ≤ R.cells ∧ P.slots + A.slots.size ≤ R.slots)
      (fun P _ v B => ∃ L, Q Z x A h v B.U.heap L ∧ B.locs = P.locs ++ L ∧ B.cells = P.cells + 1 ∧ B.slots = P.slots + A.slots.size) := by
  intro m meth c P g ig mk a X hg hsize hdg hW hn hp'
  obtain ⟨rfl, rfl, r1, r2⟩ := hp'
  have al : Z.vm.Alike P.U.vm := hZ.alike.trans X.warmed.alike
  obtain ⟨D, cfV, kV, iV, fV, hD, gV, stV, knV, obV, asV, slV⟩ := id V
  obtain ⟨D', cfC, kC, iC, fC, hD', gC, stC, -, -, asC, slC⟩ := id C
  cases hD.symm.trans hD'
  obtain ⟨D2, kD, e1, e2, e3, e4, e5⟩ := id E
  cases hD.symm.trans e1
  obtain ⟨c2, k2, i1, i2, i3, -⟩ := Cond.instantiable_spec wi
  cases e2.symm.trans i1
  cases e3.symm.trans i2
  obtain ⟨kU, u1, u2⟩ := al.2.2 _ _ e3
  have hB : Blank ST x D P.U := ⟨hD, ⟨knV, fun q hq => by rw [hq] at obV; cases obV⟩, by rw [al.findClass]; exact e2, kU, u1, by rw [u2]; exact i3, by rw [u2]; exact e5 i3⟩
  have F1 : Found ST "value" "[B" fV P.U := ⟨SBG.found_only al ⟨cfV, kV, iV, gV⟩, stV⟩
  have F2 : Found ST "coder" "B" fC P.U := ⟨SBG.found_only al ⟨cfC, kC, iC, gC⟩, stC⟩
  have hA : Ch b A P.U := ⟨⟨K.1, State.isArrayOf_alike al K.2.1, K.2.2, by omega⟩, hty⟩
  have hS : StaticIs P.U ST "COMPACT_STRINGS" "Z" (.int z) := by
    obtain ⟨cfS, iS, kS, fS, st, cS, t1, t2, t3, t4, t5, t6, t7⟩ := S
    exact StaticIs.there (s := { Z with heap := P.U.heap }) ⟨cfS, iS, kS, fS, st, cS, t1, t2, t3, t4, t5, (fun q => by rw [q] at t6; cases t6), t7⟩ al rfl
  obtain ⟨v, B, X', ⟨⟨hv, E', V', q1, q2, q3, q4, q5, q6, q7, q8, q9, q10, q11⟩, hl, hc, hs⟩, st⟩ := New1.pays x D fV fC b A z (tab_of (moved hZ hw)) hfr hlo m meth c P g ig mk _ X hg hsize hdg hW hn ⟨r1, r2, rfl, hB, F1, F2, hA, hS, hz, l0, l2, hp⟩
  have al' : Z.vm.Alike B.U.vm := hZ.alike.trans X'.warmed.alike
  have hsz : E'.slots.size = D.slots.size := by
    obtain ⟨-, -, -, kB, w1, w2, w3⟩ := q1
    obtain ⟨kB', y1, y2⟩ := al'.2.2 _ _ e3
    rw [q2.2.1] at w1
    cases w1.symm.trans y1
    rw [w3, e5 i3, y2]
  refine ⟨v, B, X', ⟨_, ⟨hv, ?_, ⟨by omega, fun y cy hy hn' => q10 y cy (by simpa using hn') hy, fun y cy hy => ?_⟩, q11, ⟨E', _, q1.1, by rw [q2.2.1]; exact e2, by rw [q2.2.1]; exact e3, by rw [q2.1]; exact obV, fun _ => by rw [hsz]; exact e5 i3⟩,
    ⟨E', cfV, kV, iV, fV, q1.1, gV, stV, by rw [q2.1]; exact knV, by rw [q2.1]; exact obV, by rw [q2.2.1]; exact asV, q3⟩, ⟨E', cfC, kC, iC, fC, q1.1, gC, stC, by rw [q2.1]; exact knV, by rw [q2.1]; exact obV, by rw [q2.2.1]; exact asC, q4⟩,
    ⟨V', ⟨q5.1, State.isArrayOf_alike al'.symm q5.2.1, q5.2.2.1⟩, q6, by rw [← al'.findClass]; exact q7, q8, fun j hj => by have := q9 j hj; rwa [Nat.zero_add] at this⟩, fun O n d w F n1 n2 => ?_⟩, hl, hc, hs⟩, st⟩
  · intro y hy
    simp only [List.mem_cons, List.not_mem_nil, or_false] at hy
    rcases hy with rfl | rfl <;> rfl
  · by_cases q : y = x
    · subst q
      cases hD.symm.trans hy
      exact ⟨E', q1.1, q2.2.1, q2.1, hsz⟩
    · exact ⟨cy, q10 y cy q hy, rfl, rfl, rfl⟩
  · obtain ⟨D3, cf, k, i, f, g1, g2, g3, g4, g5, g6, g7⟩ := F
    cases hD.symm.trans g1
    simp only [RoadKit.slotOf, g2, gV, gC, Option.map_some, Option.getD_some] at n1 n2
    exact ⟨E', cf, k, i, f, q1.1, g2, g3, by rw [q2.1]; exact g4, by rw [q2.1]; exact g5, by rw [q2.2.1]; exact g6, by rw [q2.2.2 f.slot (by simp [n1, n2])]; exact g7⟩
end StrChars.Road
namespace StrChars.Road
open Jvm Sem ClassFile Op Lib Jvm.Stand Jvm.Free Jvm.Free.XT
/-- WHAT COMES BACK, the byte[] as a list of values -/
def QA (Z : State) (x : Addr) (zn : Int32) (cs : List Int32) (h : Heap) (v : Option Value) (h' : Heap) (L : List Loc) : Prop := v = none ∧ (∀ y ∈ L, y.base = x) ∧ RoadKit.Keep h h' [x] ∧ h'.size = h.size + 1 ∧ RoadKit.Exa Z h' x ST ∧ RoadKit.Fld Z h' x ST "value" "[B" (.ref h.size) ∧ RoadKit.Fld Z h' x ST "coder" "B" (.int 0) ∧
  (∃ kb, Z.vm.findClass "[B" = some kb ∧ RoadKit.Arv Z h' h.size kb .byte zn (cs.map fun c => .int (lo8 c)) (.int 0)) ∧
  ∀ (O n d : String) (w : Value), RoadKit.Fld Z h x O n d w → RoadKit.slotOf Z O n d ≠ RoadKit.slotOf Z ST "value" "[B" → RoadKit.slotOf Z O n d ≠ RoadKit.slotOf Z ST "coder" "B" → RoadKit.Fld Z h' x O n d w
/-- **new String(chars) AT A CALL, THE ARRAYS AS LISTS**: the char[] at b holds cs, not empty, no char above 255 -/
theorem backArv {p : Program} {l : Launch} {e : Env} {R : Room} {s : State} {args : Array Value} {below : List Frame} {len W : Nat} {Z : State} {a0 : Array Value} {h : Heap} (hZ : Z.Warmed39 s.vm) (hw : ∀ d ∈ words, d.before a0 Z = true) {kI : Nat} (wi : (Jvm.Cond.instantiable ST kI).before a0 Z = true)
    {x b : Addr} {k : ClassId} {zn z : Int32} {cs : List Int32} {dv v0 c0 : Value} (E : RoadKit.Exa Z h x ST) (V : RoadKit.Fld Z h x ST "value" "[B" v0) (C : RoadKit.Fld Z h x ST "coder" "B" c0) (K : RoadKit.Arv Z h b k .char zn (cs.map Value.int) dv) (S : RoadKit.Sta Z h ST "COMPACT_STRINGS" "Z" (.int z)) (hz : ¬ z = 0)
    (hlen : zn.toNatClampNeg = cs.length) (h0 : 0 < cs.length) (hbig : cs.length ≤ 536870912) (hall : ∀ c ∈ cs, ¬ 255 < c) (hfr : 4 ≤ R.frames) (hlo : W + 65 ≤ R.locals) :
    Back l R p e below s args New1.yN len W (fun P a => a = #[.ref x, .ref b] ∧ P.U.heap = h ∧ P.cells + 1 ≤ R.cells ∧ P.slots + cs.length ≤ R.slots)
      (fun P _ v B => ∃ L, QA Z x zn cs h v B.U.heap L ∧ B.locs = P.locs ++ L ∧ B.cells = P.cells + 1 ∧ B.slots = P.slots + cs.length) := by
  obtain ⟨A, K1, K2, K3, K4, K5, K6⟩ := K
  have e : A.slots.size = cs.length := K3.trans hlen
  have hat : ∀ (i : Nat) (hi : i < cs.length), A.slots[i]? = some (.int cs[i]) := fun i hi => by rw [K5 i (by omega)]; simp [List.getD_eq_getElem?_getD, hi]
  have hcv : ∀ (i : Nat) (hi : i < cs.length), cv A i = cs[i] := fun i hi => by unfold cv; rw [hat i hi]
  have hty : Typed .char A := fun i v hv => by
    have hi : i < A.slots.size := (Array.getElem?_eq_some_iff.mp hv).1
    have q := K5 i hi
    rw [hv] at q
    rw [Option.some.inj q]
    exact K6 i hi
  refine Back.mono (back hZ hw wi E V C K1 hty S hz (by omega) (by omega) (fun i hi => by rw [hcv i (by omega)]; exact hall _ (List.getElem_mem _)) hfr hlo) (fun P a hp => ⟨hp.1, hp.2.1, hp.2.2.1, by rw [e]; exact hp.2.2.2⟩) (fun P a v B hp hq => ?_)
  obtain ⟨L, ⟨q1, q2, q3, q4, q5, q6, q7, ⟨V', v1, v2, v3, v4, v5⟩, q9⟩, hl, hc, hs⟩ := hq
  refine ⟨L, ⟨q1, q2, q3, q4, q5, q6, q7, ⟨V'.cls, v3, V', v1, rfl, by rw [v4, e, hlen], K4, fun i hi => ?_, fun i hi => ?_⟩, q9⟩, hl, hc, by rw [hs, e]⟩
  · have hi' : i < cs.length := by omega
    rw [v5 i (by omega), hcv i hi']; simp [List.getD_eq_getElem?_getD, hi']
  · have hi' : i < cs.length := by omega
    simp only [List.getD_eq_getElem?_getD, List.getElem?_map, List.getElem?_eq_getElem hi', Option.map_some, Option.getD_some]
    exact fits_lo8 _
end StrChars.Road
namespace StrChars.Road
open Jvm Sem ClassFile Op Lib Jvm.Stand Jvm.Free Jvm.Free.XT
/-- WHAT COMES BACK, in the writer's own shape -/
def QV (Z : State) (x : Addr) (N : Int32) (bs : List Int32) (h : Heap) (n0 : Nat) (v : Option Value) (h' : Heap) (L : List Loc) : Prop := v = none ∧ RoadKit.Fr n0 L ∧ RoadKit.Keep h h' [x] ∧ RoadKit.Exa Z h' x ST ∧ RoadKit.Fld Z h' x ST "coder" "B" (.int 0) ∧
  ∃ (t : Addr) (kb : ClassId), n0 ≤ t ∧ h.size ≤ t ∧ ¬ t = x ∧ RoadKit.Fld Z h' x ST "value" "[B" (.ref t) ∧ RoadKit.Arv Z h' t kb .byte N (bs.map Value.int) (.int 0)
/-- **new String(chars) AT A CALL, FOR THE WRITER**: a char[] of n known ints, each 0 to 255 -/
theorem backV {p : Program} {l : Launch} {e : Env} {R : Room} {s : State} {args : Array Value} {below : List Frame} {len W : Nat} {Z : State} {a0 : Array Value} {h : Heap} (hZ : Z.Warmed39 s.vm) (hw : ∀ d ∈ words, d.before a0 Z = true) {kI : Nat} (wi : (Jvm.Cond.instantiable ST kI).before a0 Z = true)
    {x b : Addr} {kC : ClassId} {cs bs : List Int32} {d v0 c0 : Value} {z N : Int32} {n n0 : Nat} (hx0 : n0 ≤ x) (hh0 : n0 ≤ h.size) (E : RoadKit.Exa Z h x ST) (V : RoadKit.Fld Z h x ST "value" "[B" v0) (C : RoadKit.Fld Z h x ST "coder" "B" c0) (K : RoadKit.Arv Z h b kC .char N (cs.map Value.int) d) (S : RoadKit.Sta Z h ST "COMPACT_STRINGS" "Z" (.int z)) (hz : ¬ z = 0)
    (hn : cs.length = n) (hN : N = Int32.ofNat n) (l0 : 0 < n) (l2 : n ≤ 4000) (hp : ∀ c ∈ cs, ¬ c < 0 ∧ ¬ (255 : Int32) < c) (hb : bs = cs.map (fun c => c.toInt8.toInt32)) (hfr : 4 ≤ R.frames) (hlo : W + 65 ≤ R.locals) :
    Back l R p e below s args (⟨"java/lang/String", "<init>", "([C)V"⟩ : MethodName) len W (fun P a => a = #[.ref x, .ref b] ∧ P.U.heap = h ∧ P.cells + 1 ≤ R.cells ∧ P.slots + n ≤ R.slots)
      (fun P _ v B => ∃ L, QV Z x N bs h n0 v B.U.heap L ∧ B.locs = P.locs ++ L ∧ B.cells = P.cells + 1 ∧ B.slots = P.slots + n) := by
  subst hn hN hb
  refine Back.mono (backArv hZ hw wi E V C K S hz (n32 (by omega)) l0 (by omega) (fun c hc => (hp c hc).2) hfr hlo) (fun P a hp => hp) (fun P a v B hp hq => ?_)
  obtain ⟨L, ⟨q1, q2, q3, q4, q5, q6, q7, ⟨kb, v1, v2⟩, q9⟩, hl, hc, hs⟩ := hq
  exact ⟨L, ⟨q1, fun y hy => by rw [q2 y hy]; exact hx0, q3, q5, q7, h.size, kb, hh0, Nat.le_refl _, Nat.ne_of_gt E.lt, q6, by rw [List.map_map]; exact v2⟩, hl, hc, hs⟩
end StrChars.Road
namespace StrChars
open Jvm Sem ClassFile Op Lib Jvm.Stand Jvm.Free.XT Jvm.Free.ALB Jvm.Free.JM Jvm.Free
open Jvm.Lib.Cold (StaticIs)
def hi8 (x : Int32) : Int32 := lo8 (x >>> ((8 : Int32) &&& 31))
theorem shr0 (c : Int32) : c >>> ((0 : Int32) &&& 31) = c := by
  have e : ((0 : Int32) &&& 31) = 0 := by decide
  rw [e]
  apply Int32.toBitVec_inj.mp
  rw [Int32.toBitVec_shiftRight]
  have e1 : ((0 : Int32).toBitVec.smod 32) = 0#32 := by decide
  rw [e1, BitVec.sshiftRight_eq']
  exact BitVec.sshiftRight_zero
end StrChars
namespace StrChars
open Jvm Sem ClassFile Op Lib Jvm.Stand Jvm.Free.XT Jvm.Free.ALB Jvm.Free.JM Jvm.Free
open Jvm.Lib.Cold (StaticIs)
theorem shr1 {n : Nat} (h : 2 * n < 2 ^ 31) : Int32.ofNat (2 * n) >>> ((1 : Int32) &&& 31) = Int32.ofNat n := by
  have e : ((1 : Int32) &&& 31) = 1 := by decide
  rw [e]
  apply Int32.toBitVec_inj.mp
  rw [Int32.toBitVec_shiftRight]
  have e1 : ((1 : Int32).toBitVec.smod 32) = 1#32 := by decide
  have hm : (BitVec.ofNat 32 (2 * n)).toNat = 2 * n := by rw [BitVec.toNat_ofNat, Nat.mod_eq_of_lt (by omega)]
  rw [e1, BitVec.sshiftRight_eq']
  apply BitVec.eq_of_toNat_eq
  show ((BitVec.ofNat 32 (2 * n)).sshiftRight 1).toNat = (BitVec.ofNat 32 n).toNat
  rw [BitVec.toNat_sshiftRight_of_msb_false (by rw [BitVec.msb_eq_false_iff_two_mul_lt, hm]; omega), hm, BitVec.toNat_ofNat, Nat.shiftRight_eq_div_pow]
  omega
/-- the array's cell V codes the n chars f 0 .. f (n - 1) by the coder cd, as the JDK does: coder 1 just where some char is above 255 -/
def Cod (cd : Int32) (n : Nat) (f : Nat → Int32) (V : Cell) : Prop := (cd = 0 ∧ V.slots.size = n ∧ ∀ j, j < n → V.slots[j]? = some (.int (lo8 (f j))) ∧ ¬ 255 < f j) ∨ (cd = 1 ∧ V.slots.size = 2 * n ∧ (∀ j, j < n → V.slots[2 * j]? = some (.int (lo8 (f j))) ∧ V.slots[2 * j + 1]? = some (.int (hi8 (f j)))) ∧ ∃ j, j < n ∧ 255 < f j)
theorem Cod.cd {cd : Int32} {n : Nat} {f : Nat → Int32} {V : Cell} (h : Cod cd n f V) : cd = 0 ∨ cd = 1 := h.imp (fun q => q.1) fun q => q.1
theorem Cod.len {cd : Int32} {n : Nat} {f : Nat → Int32} {V : Cell} (h : Cod cd n f V) (hs : V.slots.size < 2 ^ 31) : Int32.ofNat V.slots.size >>> (cd &&& 31) = Int32.ofNat n := by
  rcases h with ⟨rfl, h, -⟩ | ⟨rfl, h, -⟩
  · rw [shr0, h]
  · rw [h, shr1 (by omega)]
/-- **x is a String of the n chars f 0 .. f (n - 1)**, Latin-1 or UTF-16; its array at t has the cell V -/
def Txt (x t : Addr) (V : Cell) (cd : Int32) (n : Nat) (f : Nat → Int32) (U : State) : Prop := Exact "java/lang/String" x U ∧ Has x "java/lang/String" "value" "[B" (.ref t) U ∧ Has x "java/lang/String" "coder" "B" (.int cd) U ∧ XT.Arr .byte t V U ∧ Cod cd n f V ∧ ∀ j, j < n → ¬ f j < 0 ∧ ¬ 65535 < f j
theorem Txt.mv {x t : Addr} {V : Cell} {cd : Int32} {n : Nat} {f : Nat → Int32} {U U' : State} (h : Txt x t V cd n f U) (hal : U.vm.Alike U'.vm) (hh : U'.heap = U.heap) : Txt x t V cd n f U' := ⟨h.1.mv hal hh, h.2.1.mv hal hh, h.2.2.1.mv hal hh, h.2.2.2.1.mv hal hh, h.2.2.2.2⟩
namespace Cdr
def yN : MethodName := ⟨"java/lang/String", "coder", "()B"⟩
abbrev yB : ByteArray := jdk_42_method_152_code
theorem d0 : decode yB 0 = .ok (.getstatic 38, 3) := by decide +kernel
theorem d3 : decode yB 3 = .ok (.ifCond (.eq) 10, 3) := by decide +kernel
theorem d6 : decode yB 6 = .ok (.aload_n 0, 1) := by decide +kernel
theorem d7 : decode yB 7 = .ok (.getfield 15, 3) := by decide +kernel
theorem d10 : decode yB 10 = .ok (.goto 4, 3) := by decide +kernel
theorem d14 : decode yB 14 = .ok (.ireturn, 1) := by decide +kernel
def site : List Cond := [.fieldLink "java/lang/String" 38 "java/lang/String" "COMPACT_STRINGS" "Z", .fieldLink "java/lang/String" 15 "java/lang/String" "coder" "B"]
def tab : Cond := tabOf yN yB 1 (some .byte) site
def P (x : Addr) (cd z : Int32) (args : Array Value) (s : State) : Prop := args = #[.ref x] ∧ Has x "java/lang/String" "coder" "B" (.int cd) s ∧ (cd = 0 ∨ cd = 1) ∧ StaticIs s "java/lang/String" "COMPACT_STRINGS" "Z" (.int z) ∧ ¬ z = 0
def E (cd : Int32) (r : Option Value) (s u : State) : Prop := XT.PureE (some (.int cd)) r s u
theorem law (l : Launch) (x : Addr) (cd z : Int32) : Law l yN 1 0 0 0 yB 1 (some .byte) site (P x cd z) (E cd) [] 0 0 := by
  refine Law.of_walk (plainFor_of_name (by decide +kernel)) (by decide +kernel) (by decide +kernel) (by decide) (fun _ _ h => by rw [h.1]; rfl) (fun _ U U' hal hh h => ⟨h.1, h.2.1.mv hal hh, h.2.2.1, h.2.2.2.1.there hal hh, h.2.2.2.2⟩) (fun r U U' V V' h1 hal h2 h => XT.PureE.mv r U U' V V' h1 hal h2 h) ?_
  intro p e s m args below meth c s₁ X0 hexec hbytes hml hret hlk hnm hown hh0 W hP
  obtain ⟨rfl, hx, hc, s1, hz⟩ := hP
  have c1 : Steps p.tables e below (s₁.setTop (entryFrame m #[.ref x] 1)) (s₁.setTop (mkF m 0 #[.val (.ref x)] [])) := entry rfl
  obtain ⟨T2, X2, q2, st2⟩ := X0.sget hexec hown (wk W (.fieldLink "java/lang/String" 38 "java/lang/String" "COMPACT_STRINGS" "Z")) s1 (fun _ _ h => by rw [hh0]; exact h) (g := (mkF m 0 #[.val (.ref x)] [])) rfl (hb hbytes d0)
  have hh2 := q2.trans hh0
  have c3 : Steps p.tables e below (s₁.setTop (entryFrame m #[.ref x] 1)) (T2.setTop (mkF m 7 #[.val (.ref x)] [.ref x])) := (c1.trans (st2 _ (Steps.refl _))).trans (by
    refine XS.ifNo X2.here hexec rfl (hb hbytes d3) rfl (i0_eq_f hz) ?_
    refine XS.aloadN X2.here hexec rfl (hb hbytes d6) rfl rfl ?_
    exact Steps.refl _)
  obtain ⟨T4, X4, q4, st4⟩ := X2.hget hexec hown (wk W (.fieldLink "java/lang/String" 15 "java/lang/String" "coder" "B")) (hx.mv X2.warmed.alike hh2) (g := (mkF m 7 #[.val (.ref x)] [.ref x])) rfl (rest := []) rfl (hb hbytes d7)
  have c5 : Steps p.tables e below (s₁.setTop (entryFrame m #[.ref x] 1)) (T4.setTop (mkF m 14 #[.val (.ref x)] [.int cd])) := (c3.trans (st4 _ (Steps.refl _))).trans (by
    refine XS.goto X4.here hexec rfl (pc0 := 10) rfl (hb hbytes d10) (by decide) rfl ?_
    exact Steps.refl _)
  exact ⟨T4, some (.int cd), _, _, _, X4, rfl, rfl, rfl, (fun h => by cases h), ⟨rfl, q4.trans hh2⟩, fun fs hl => c5.trans (X4.ireturnOut hexec hret (by rcases hc with rfl | rfl <;> rfl) (Or.inr (Or.inr (Or.inl rfl))) (hb hbytes d14) hl)⟩
end Cdr
namespace Len
def yN : MethodName := ⟨"java/lang/String", "length", "()I"⟩
abbrev yB : ByteArray := jdk_42_method_54_code
theorem d0 : decode yB 0 = .ok (.aload_n 0, 1) := by decide +kernel
theorem d1 : decode yB 1 = .ok (.getfield 9, 3) := by decide +kernel
theorem d4 : decode yB 4 = .ok (.arraylength, 1) := by decide +kernel
theorem d5 : decode yB 5 = .ok (.aload_n 0, 1) := by decide +kernel
theorem d6 : decode yB 6 = .ok (.invokevirtual 335, 3) := by decide +kernel
theorem d9 : decode yB 9 = .ok (.ishr, 1) := by decide +kernel
theorem d10 : decode yB 10 = .ok (.ireturn, 1) := by decide +kernel
def site : List Cond := [.fieldLink "java/lang/String" 9 "java/lang/String" "value" "[B", Cdr.tab] ++ virtW "java/lang/String" 335 "java/lang/String" Cdr.yN Cdr.yN
def tab : Cond := tabOf yN yB 1 (some .int) site
def P (x t : Addr) (V : Cell) (cd : Int32) (n : Nat) (f : Nat → Int32) (z : Int32) (args : Array Value) (s : State) : Prop := args = #[.ref x] ∧ Txt x t V cd n f s ∧ StaticIs s "java/lang/String" "COMPACT_STRINGS" "Z" (.int z) ∧ ¬ z = 0
def E (n : Nat) (r : Option Value) (s u : State) : Prop := XT.PureE (some (.int (Int32.ofNat n))) r s u
/-- length() of a String of n chars, in either coding -/
theorem law (l : Launch) (x t : Addr) (V : Cell) (cd : Int32) (n : Nat) (f : Nat → Int32) (z : Int32) : Law l yN 1 0 1 13 yB 1 (some .int) site (P x t V cd n f z) (E n) [] 0 0 := by
  refine Law.of_walk (plainFor_of_name (by decide +kernel)) (by decide +kernel) (by decide +kernel) (by decide) (fun _ _ h => by rw [h.1]; rfl) (fun _ U U' hal hh h => ⟨h.1, h.2.1.mv hal hh, h.2.2.1.there hal hh, h.2.2.2⟩) (fun r U U' V V' h1 hal h2 h => XT.PureE.mv r U U' V V' h1 hal h2 h) ?_
  intro p e s m args below meth c s₁ X0 hexec hbytes hml hret hlk hnm hown hh0 W hP
  obtain ⟨rfl, hx, s1, hz⟩ := hP
  have v31 := hx.2.2.2.1.2.2.2
  have c1 : Steps p.tables e below (s₁.setTop (entryFrame m #[.ref x] 1)) (s₁.setTop (mkF m 1 #[.val (.ref x)] [.ref x])) := Steps.trans (entry rfl) (by
    show Steps p.tables e below (s₁.setTop (mkF m 0 #[.val (.ref x)] [])) _
    refine XS.aloadN X0.here hexec rfl (hb hbytes d0) rfl rfl ?_
    exact Steps.refl _)
  obtain ⟨T2, X2, q2, st2⟩ := X0.hget hexec hown (wk W (.fieldLink "java/lang/String" 9 "java/lang/String" "value" "[B")) (hx.mv X0.warmed.alike hh0).2.1 (g := (mkF m 1 #[.val (.ref x)] [.ref x])) rfl (rest := []) rfl (hb hbytes d1)
  have hh2 := q2.trans hh0
  have hx2 := hx.mv X2.warmed.alike hh2
  have c3 : Steps p.tables e below (s₁.setTop (entryFrame m #[.ref x] 1)) (T2.setTop (mkF m 6 #[.val (.ref x)] [.ref x, .int (Int32.ofNat V.slots.size)])) := (c1.trans (st2 _ (Steps.refl _))).trans (by
    refine X2.alen hexec hx2.2.2.2.1 rfl rfl (hb hbytes d4) ?_
    refine XS.aloadN X2.here hexec rfl (hb hbytes d5) rfl rfl ?_
    exact Steps.refl _)
  obtain ⟨v4, T4, X4, E4, g4⟩ := X2.callV hexec (Cdr.law l x cd z) hown (wks W (virtW "java/lang/String" 335 "java/lang/String" Cdr.yN Cdr.yN)) rfl (by decide) (wk W Cdr.tab) (W := 1) (Nat.le_of_ble_eq_true rfl) (Nat.le_of_ble_eq_true rfl) (Nat.le_refl _) (Nat.le_refl _) (hx2.1.fc X2.warmed.alike) hx2.1.is (g := (mkF m 6 #[.val (.ref x)] [.ref x, .int (Int32.ofNat V.slots.size)])) rfl (by rw [hml]; rfl) c3 (argsL := []) (rest := [.int (Int32.ofNat V.slots.size)]) rfl rfl (by show 2 * 0 + (1 + 0) ≤ _; decide) (hb hbytes d6) (⟨rfl, hx2.2.2.1, hx.2.2.2.2.1.cd, s1.there X2.warmed.alike hh2, hz⟩)
  obtain ⟨rfl, q4⟩ := E4
  have c5 : Steps p.tables e below (s₁.setTop (entryFrame m #[.ref x] 1)) (T4.setTop (mkF m 10 #[.val (.ref x)] [.int (Int32.ofNat V.slots.size >>> (cd &&& 31))])) := Steps.trans g4 (by
    refine ishr X4.here hexec rfl (hb hbytes d9) rfl ?_
    exact Steps.refl _)
  rw [hx.2.2.2.2.1.len v31] at c5
  exact ⟨T4, some (.int (Int32.ofNat n)), _, _, _, X4, rfl, rfl, rfl, (fun h => by cases h), ⟨rfl, q4.trans hh2⟩, fun fs hl => c5.trans (X4.ireturnOut hexec hret rfl (Or.inl rfl) (hb hbytes d10) hl)⟩
theorem pays {l : Launch} {R : Room} {p : Program} {e : Env} {below : List Frame} {s : State} {sargs : Array Value} {len W : Nat} (x t : Addr) (V : Cell) (cd : Int32) (n : Nat) (f : Nat → Int32) (z : Int32) (htab : tab.before sargs s = true) (hfr : 2 ≤ R.frames) (hlo : W + 25 ≤ R.locals) :
    Back l R p e below s sargs yN len W (fun A₁ a₁ => A₁.cells + 0 ≤ R.cells ∧ A₁.slots + 0 ≤ R.slots ∧ P x t V cd n f z a₁ A₁.U) (fun A₁ _ v₁ B₁ => E n v₁ A₁.U B₁.U ∧ B₁.locs = A₁.locs ++ [] ∧ B₁.cells = A₁.cells + 0 ∧ B₁.slots = A₁.slots + 0) :=
  (law l x t V cd n f z).pays htab hfr (by omega)
end Len
end StrChars
namespace StrChars.Road
open Jvm Sem ClassFile Op Lib Jvm.Stand Jvm.Free Jvm.Free.XT
open Jvm.Lib.Cold (StaticIs)
theorem consq {a : Array Value} {s : State} {c : Jvm.Cond} {L : List Jvm.Cond} (h0 : c.before a s = true) (h : ∀ w ∈ L, w.before a s = true) : ∀ w ∈ c :: L, w.before a s = true := fun w hw => (List.mem_cons.mp hw).elim (fun e => e ▸ h0) (h w)
/-- the words of String.length(), either coding -/
abbrev wordsLen : List Jvm.Cond := [.code Len.yN Len.yB 1 (some .int), .initialized ST, .fieldLink ST 9 ST "value" "[B", .fieldLink ST 38 ST "COMPACT_STRINGS" "Z", .fieldLink ST 15 ST "coder" "B", .code Cdr.yN Cdr.yB 1 (some .byte), .methodLink ST 335 Cdr.yN, .declares Cdr.yN, .selects ST Cdr.yN Cdr.yN, .instanceMethod Cdr.yN]
theorem tabLen_of {a : Array Value} {s : State} (h : ∀ w ∈ wordsLen, w.before a s = true) : Len.tab.before a s = true := by
  have hc : Cdr.tab.before a s = true := unparts (wk h (.code Cdr.yN Cdr.yB 1 (some .byte))) (wks h (.initialized Cdr.yN.cls :: Cdr.site))
  have q := consq hc h
  exact unparts (wk q (.code Len.yN Len.yB 1 (some .int))) (wks q (.initialized Len.yN.cls :: Len.site))
theorem movedLen {Z s : State} {a0 args : Array Value} (hZ : Z.Warmed39 s.vm) (hw : ∀ d ∈ wordsLen, d.before a0 Z = true) : ∀ d ∈ wordsLen, d.before args s = true := fun d hd => by
  have q := hw d hd
  have t : ∀ d ∈ wordsLen, d = .arrayClass .byte ∨ (d.onTables && d.keepsFace) = true := by decide +kernel
  rcases t d hd with rfl | t
  · exact RoadKit.mvA hZ q
  · exact RoadKit.mv hZ q t
/-- the bytes of the chars cs, low before high -/
def wideBytes : List Int32 → List Value
  | [] => []
  | c :: cs => .int (lo8 c) :: .int (hi8 c) :: wideBytes cs
theorem wide_lo (d : Value) : ∀ (cs : List Int32) (j : Nat), j < cs.length → (wideBytes cs).getD (2 * j) d = .int (lo8 (cs.getD j 0))
  | [], j, h => absurd h (Nat.not_lt_zero j)
  | c :: cs, 0, _ => rfl
  | c :: cs, j + 1, h => by
    have q := wide_lo d cs j (by simpa using h)
    rw [show 2 * (j + 1) = 2 * j + 1 + 1 from by omega]
    simpa [wideBytes] using q
theorem wide_hi (d : Value) : ∀ (cs : List Int32) (j : Nat), j < cs.length → (wideBytes cs).getD (2 * j + 1) d = .int (hi8 (cs.getD j 0))
  | [], j, h => absurd h (Nat.not_lt_zero j)
  | c :: cs, 0, _ => rfl
  | c :: cs, j + 1, h => by
    have q := wide_hi d cs j (by simpa using h)
    rw [show 2 * (j + 1) + 1 = 2 * j + 1 + 1 + 1 from by omega]
    simpa [wideBytes] using q
theorem low_at (d : Value) (cs : List Int32) (j : Nat) (h : j < cs.length) : (cs.map fun c => Value.int (lo8 c)).getD j d = .int (lo8 (cs.getD j 0)) := by
  simp [List.getD_eq_getElem?_getD, h]
/-- an array of N2 bytes vs codes the chars cs by the coder cd -/
def CodA (cs : List Int32) (cd N2 : Int32) (vs : List Value) : Prop := (cd = 0 ∧ N2 = Int32.ofNat cs.length ∧ vs = (cs.map fun c => Value.int (lo8 c)) ∧ ∀ c ∈ cs, ¬ 255 < c) ∨ (cd = 1 ∧ N2 = Int32.ofNat (2 * cs.length) ∧ vs = wideBytes cs ∧ ∃ c ∈ cs, 255 < c)
theorem CodA.cod {cs : List Int32} {cd N2 : Int32} {vs : List Value} {V : Cell} (h : CodA cs cd N2 vs) (hn : 2 * cs.length < 2 ^ 31) (hs : V.slots.size = N2.toNatClampNeg) (hv : RoadKit.Has V vs (.int 0)) : Cod cd cs.length (fun j => cs.getD j 0) V := by
  rcases h with ⟨rfl, rfl, rfl, h⟩ | ⟨rfl, rfl, rfl, c, hc, hw⟩
  · rw [n32 (by omega)] at hs
    exact Or.inl ⟨rfl, hs, fun j hj => ⟨by rw [hv j (by omega), low_at _ _ _ hj], by
      have e : cs.getD j 0 = cs[j] := by simp [List.getD_eq_getElem?_getD, hj]
      show ¬ 255 < cs.getD j 0
      rw [e]; exact h _ (List.getElem_mem _)⟩⟩
  · rw [n32 (by omega)] at hs
    obtain ⟨j, hj, rfl⟩ := List.getElem_of_mem hc
    exact Or.inr ⟨rfl, hs, fun j hj => ⟨by rw [hv _ (by omega), wide_lo _ _ _ hj], by rw [hv _ (by omega), wide_hi _ _ _ hj]⟩, j, hj, by
      have e : cs.getD j 0 = cs[j] := by simp [List.getD_eq_getElem?_getD, hj]
      show 255 < cs.getD j 0
      rw [e]; exact hw⟩
/-- an object of exactly java/lang/String, its two fields found: as the laws ask it -/
theorem strObj {Z U : State} {a0 : Array Value} {kI : Nat} (wi : (Jvm.Cond.instantiable ST kI).before a0 Z = true) (al : Z.vm.Alike U.vm) {x : Addr} {v0 c0 : Value} (E : RoadKit.Exa Z U.heap x ST) (V : RoadKit.Fld Z U.heap x ST "value" "[B" v0) (C : RoadKit.Fld Z U.heap x ST "coder" "B" c0) :
    ∃ (D : Cell) (fV fC : Field), Blank ST x D U ∧ Found ST "value" "[B" fV U ∧ Found ST "coder" "B" fC U ∧ D.slots[fV.slot]? = some v0 ∧ D.slots[fC.slot]? = some c0 ∧ RoadKit.slotOf Z ST "value" "[B" = fV.slot ∧ RoadKit.slotOf Z ST "coder" "B" = fC.slot := by
  obtain ⟨D, cfV, kV, iV, fV, hD, gV, stV, knV, obV, asV, slV⟩ := V
  obtain ⟨D', cfC, kC, iC, fC, hD', gC, stC, -, -, asC, slC⟩ := C
  cases hD.symm.trans hD'
  obtain ⟨D2, kD, e1, e2, e3, e4, e5⟩ := E
  cases hD.symm.trans e1
  obtain ⟨c2, k2, i1, i2, i3, -⟩ := Cond.instantiable_spec wi
  cases e2.symm.trans i1
  cases e3.symm.trans i2
  obtain ⟨kU, u1, u2⟩ := al.2.2 _ _ e3
  exact ⟨D, fV, fC, ⟨hD, ⟨knV, fun q hq => by rw [hq] at obV; cases obV⟩, by rw [al.findClass]; exact e2, kU, u1, by rw [u2]; exact i3, by rw [u2]; exact e5 i3⟩, ⟨SBG.found_only al ⟨cfV, kV, iV, gV⟩, stV⟩, ⟨SBG.found_only al ⟨cfC, kC, iC, gC⟩, stC⟩, slV, slC, by simp [RoadKit.slotOf, gV], by simp [RoadKit.slotOf, gC]⟩
theorem sta_is {Z U : State} (al : Z.vm.Alike U.vm) {C n d : String} {v : Value} (S : RoadKit.Sta Z U.heap C n d v) : StaticIs U C n d v := by
  obtain ⟨cfS, iS, kS, fS, st, cS, t1, t2, t3, t4, t5, t6, t7⟩ := S
  exact StaticIs.there (s := { Z with heap := U.heap }) ⟨cfS, iS, kS, fS, st, cS, t1, t2, t3, t4, t5, (fun q => by rw [q] at t6; cases t6), t7⟩ al rfl
/-- **length() OF SUCH A STRING** -/
theorem lenW {p : Program} {l : Launch} {e : Env} {R : Room} {s : State} {args : Array Value} {below : List Frame} {len W : Nat} {Z : State} {a0 : Array Value} {h : Heap} (hZ : Z.Warmed39 s.vm) (hw : ∀ d ∈ wordsLen, d.before a0 Z = true) {kI : Nat} (wi : (Jvm.Cond.instantiable ST kI).before a0 Z = true)
    {x t : Addr} {kb : ClassId} {cs : List Int32} {cd N2 z : Int32} {vs : List Value} (E : RoadKit.Exa Z h x ST) (V : RoadKit.Fld Z h x ST "value" "[B" (.ref t)) (C : RoadKit.Fld Z h x ST "coder" "B" (.int cd)) (K : RoadKit.Arv Z h t kb .byte N2 vs (.int 0)) (hc : CodA cs cd N2 vs) (hb : ∀ c ∈ cs, ¬ c < 0 ∧ ¬ (65535 : Int32) < c)
    (S : RoadKit.Sta Z h ST "COMPACT_STRINGS" "Z" (.int z)) (hz : ¬ z = 0) (l2 : cs.length ≤ 4000) (hfr : 2 ≤ R.frames) (hlo : W + 25 ≤ R.locals) :
    Back l R p e below s args (⟨"java/lang/String", "length", "()I"⟩ : MethodName) len W (fun P a => a = #[.ref x] ∧ P.U.heap = h ∧ P.cells + 0 ≤ R.cells ∧ P.slots + 0 ≤ R.slots)
      (fun P _ v B => ∃ L, (v = some (.int (Int32.ofNat cs.length)) ∧ L = [] ∧ B.U.heap = h) ∧ B.locs = P.locs ++ L ∧ B.cells = P.cells + 0 ∧ B.slots = P.slots + 0) := by
  obtain ⟨A, K1, K2, K3, K4, K5, K6⟩ := K
  have hcod := hc.cod (by omega) K3 K5
  intro m meth c P g ig mk a X hg hsize hdg hW hn hp'
  obtain ⟨rfl, rfl, r1, r2⟩ := hp'
  have al : Z.vm.Alike P.U.vm := hZ.alike.trans X.warmed.alike
  obtain ⟨D, fV, fC, hB, F1, F2, g1, g2, -, -⟩ := strObj wi al E V C
  have hx : Txt x t A cd cs.length (fun j => cs.getD j 0) P.U := ⟨⟨_, hB.2.2.1, D, hB.1, rfl, by cases q : D.vm <;> first | rfl | exact absurd q (hB.2.1.2 _)⟩, Has.of hB F1 g1, Has.of hB F2 g2, ⟨K1.1, State.isArrayOf_alike al K1.2.1, K1.2.2, by rcases hcod with ⟨-, q, -⟩ | ⟨-, q, -⟩ <;> omega⟩, hcod, fun j hj => by
    have e : cs.getD j 0 = cs[j] := by simp [List.getD_eq_getElem?_getD, hj]
    show ¬ cs.getD j 0 < 0 ∧ ¬ 65535 < cs.getD j 0
    rw [e]; exact hb _ (List.getElem_mem _)⟩
  obtain ⟨v, B, X', ⟨⟨hv, hh⟩, hl, hk, hs⟩, st⟩ := Len.pays x t A cd cs.length (fun j => cs.getD j 0) z (tabLen_of (movedLen hZ hw)) hfr hlo m meth c P g ig mk _ X hg hsize hdg hW hn ⟨r1, r2, rfl, hx, sta_is al S, hz⟩
  exact ⟨v, B, X', ⟨[], ⟨hv, rfl, hh⟩, hl, hk, hs⟩, st⟩
end StrChars.Road
namespace StrChars.Road
open Jvm Sem ClassFile Op Lib Jvm.Stand Jvm.Free Jvm.Free.XT
open Jvm.Lib.Cold (StaticIs)
/-- what backV says of its String, as the contracts of this text ask it: cs's low bytes, coder 0 -/
theorem codOf {cs : List Int32} {n : Nat} (hn : cs.length = n) (hb : ∀ c ∈ cs, ¬ 255 < c) : CodA cs 0 (Int32.ofNat n) ((cs.map lo8).map Value.int) := Or.inl ⟨rfl, by rw [hn], by simp [List.map_map, Function.comp_def], hb⟩
end StrChars.Road
end Jvm.Pilot.@@N@@
namespace Jvm.Pilot.@@N@@
namespace Own
open Jvm Jvm.ClassFile Sem Op Lib Jvm.Free Jvm.Stand Jvm.LawKit Jvm.RoadKit Bundle
/-! ## 1. The plain steps, run as a function on pc, locals and stack -/
abbrev Fm : Type := Nat × Array Slot × List Value
def i1 (S : List Value) (f : Int32 → List Value → Option Fm) : Option Fm := match S with | .int x :: S => f x S | _ => none
def i2 (S : List Value) (f : Int32 → Int32 → List Value → Option Fm) : Option Fm := match S with | .int y :: .int x :: S => f x y S | _ => none
def l1 (S : List Value) (f : Int64 → List Value → Option Fm) : Option Fm := match S with | .long x :: S => f x S | _ => none
def l2 (S : List Value) (f : Int64 → Int64 → List Value → Option Fm) : Option Fm := match S with | .long y :: .long x :: S => f x y S | _ => none
def il2 (S : List Value) (f : Int64 → Int32 → List Value → Option Fm) : Option Fm := match S with | .int y :: .long x :: S => f x y S | _ => none
def v1 (S : List Value) (f : Value → List Value → Option Fm) : Option Fm := match S with | x :: S => f x S | _ => none
def v2 (S : List Value) (f : Value → Value → List Value → Option Fm) : Option Fm := match S with | y :: x :: S => f x y S | _ => none
def gi (L : Array Slot) (k : Nat) (f : Int32 → Option Fm) : Option Fm := match L[k]? with | some (.val (.int x)) => f x | _ => none
def gl (L : Array Slot) (k : Nat) (f : Int64 → Option Fm) : Option Fm := match L[k]? with | some (.val (.long x)) => f x | _ => none
def gr (L : Array Slot) (k : Nat) (f : Value → Option Fm) : Option Fm := match L[k]? with | some (.val .null) => f .null | some (.val (.ref a)) => f (.ref a) | _ => none
def ck (P : Prop) [Decidable P] (r : Option Fm) : Option Fm := if P then r else none
def st (o : Option (Array Slot)) (f : Array Slot → Fm) : Option Fm := match o with | some L => some (f L) | none => none
theorem i1_inv {S f r} (h : i1 S f = some r) : ∃ x S', S = .int x :: S' ∧ f x S' = some r := by unfold i1 at h; split at h <;> first | exact ⟨_, _, rfl, h⟩ | exact nomatch h
theorem i2_inv {S f r} (h : i2 S f = some r) : ∃ x y S', S = .int y :: .int x :: S' ∧ f x y S' = some r := by unfold i2 at h; split at h <;> first | exact ⟨_, _, _, rfl, h⟩ | exact nomatch h
theorem l1_inv {S f r} (h : l1 S f = some r) : ∃ x S', S = .long x :: S' ∧ f x S' = some r := by unfold l1 at h; split at h <;> first | exact ⟨_, _, rfl, h⟩ | exact nomatch h
theorem l2_inv {S f r} (h : l2 S f = some r) : ∃ x y S', S = .long y :: .long x :: S' ∧ f x y S' = some r := by unfold l2 at h; split at h <;> first | exact ⟨_, _, _, rfl, h⟩ | exact nomatch h
theorem il2_inv {S f r} (h : il2 S f = some r) : ∃ x y S', S = .int y :: .long x :: S' ∧ f x y S' = some r := by unfold il2 at h; split at h <;> first | exact ⟨_, _, _, rfl, h⟩ | exact nomatch h
theorem v1_inv {S f r} (h : v1 S f = some r) : ∃ x S', S = x :: S' ∧ f x S' = some r := by unfold v1 at h; split at h <;> first | exact ⟨_, _, rfl, h⟩ | exact nomatch h
theorem v2_inv {S f r} (h : v2 S f = some r) : ∃ x y S', S = y :: x :: S' ∧ f x y S' = some r := by unfold v2 at h; split at h <;> first | exact ⟨_, _, _, rfl, h⟩ | exact nomatch h
theorem gi_inv {L k f r} (h : gi L k f = some r) : ∃ x, L[k]? = some (.val (.int x)) ∧ f x = some r := by unfold gi at h; split at h <;> first | exact ⟨_, by assumption, h⟩ | exact nomatch h
theorem gl_inv {L k f r} (h : gl L k f = some r) : ∃ x, L[k]? = some (.val (.long x)) ∧ f x = some r := by unfold gl at h; split at h <;> first | exact ⟨_, by assumption, h⟩ | exact nomatch h
theorem gr_inv {L k f r} (h : gr L k f = some r) : ∃ x, L[k]? = some (.val x) ∧ x.isRef = true ∧ f x = some r := by unfold gr at h; split at h <;> first | exact ⟨_, by assumption, rfl, h⟩ | exact ⟨_, by assumption, rfl, h⟩ | exact nomatch h
theorem ck_inv {P : Prop} [Decidable P] {r : Option Fm} {x : Fm} (h : ck P r = some x) : P ∧ r = some x := by unfold ck at h; split at h <;> first | exact ⟨by assumption, h⟩ | exact nomatch h
theorem st_inv {o f r} (h : st o f = some r) : ∃ L, o = some L ∧ f L = r := by unfold st at h; split at h <;> first | exact ⟨_, rfl, Option.some.inj h⟩ | exact nomatch h
def p1 (i : Instr) (n pc : Nat) (L : Array Slot) (S : List Value) : Option Fm := match i with
  | .iload_n k => ck (n = 1) (gi L k.val fun v => some (pc + 1, L, .int v :: S))
  | .iload k => ck (n = 2) (gi L k fun v => some (pc + 2, L, .int v :: S))
  | .lload_n k => ck (n = 1) (gl L k.val fun v => some (pc + 1, L, .long v :: S))
  | .lload k => ck (n = 2) (gl L k fun v => some (pc + 2, L, .long v :: S))
  | .aload_n k => ck (n = 1) (gr L k.val fun v => some (pc + 1, L, v :: S))
  | .aload k => ck (n = 2) (gr L k fun v => some (pc + 2, L, v :: S))
  | .iconst i => ck (n = 1) (some (pc + 1, L, .int (Int32.ofInt i) :: S))
  | .lconst k => ck (n = 1) (some (pc + 1, L, .long (Int64.ofNat k) :: S))
  | .bipush i => ck (n = 2) (some (pc + 2, L, .int (Int8.ofInt i).toInt32 :: S))
  | .sipush i => ck (n = 3) (some (pc + 3, L, .int (Int16.ofInt i).toInt32 :: S))
  | .aconst_null => ck (n = 1) (some (pc + 1, L, .null :: S))
  | .iadd => ck (n = 1) (i2 S fun x y S => some (pc + 1, L, .int (x + y) :: S))
  | .isub => ck (n = 1) (i2 S fun x y S => some (pc + 1, L, .int (x - y) :: S))
  | .imul => ck (n = 1) (i2 S fun x y S => some (pc + 1, L, .int (x * y) :: S))
  | .iand => ck (n = 1) (i2 S fun x y S => some (pc + 1, L, .int (x &&& y) :: S))
  | .ior => ck (n = 1) (i2 S fun x y S => some (pc + 1, L, .int (x ||| y) :: S))
  | .ixor => ck (n = 1) (i2 S fun x y S => some (pc + 1, L, .int (x ^^^ y) :: S))
  | .ishl => ck (n = 1) (i2 S fun x y S => some (pc + 1, L, .int (x <<< (y &&& 31)) :: S))
  | .ishr => ck (n = 1) (i2 S fun x y S => some (pc + 1, L, .int (x >>> (y &&& 31)) :: S))
  | .iushr => ck (n = 1) (i2 S fun x y S => some (pc + 1, L, .int (XT.ushr x y) :: S))
  | .irem => ck (n = 1) (i2 S fun x y S => ck (y ≠ 0) (some (pc + 1, L, .int (x % y) :: S)))
  | .idiv => ck (n = 1) (i2 S fun x y S => ck (y ≠ 0) (some (pc + 1, L, .int (x / y) :: S)))
  | .ineg => ck (n = 1) (i1 S fun x S => some (pc + 1, L, .int (-x) :: S))
  | .ladd => ck (n = 1) (l2 S fun x y S => some (pc + 1, L, .long (x + y) :: S))
  | .lsub => ck (n = 1) (l2 S fun x y S => some (pc + 1, L, .long (x - y) :: S))
  | .lmul => ck (n = 1) (l2 S fun x y S => some (pc + 1, L, .long (x * y) :: S))
  | .land => ck (n = 1) (l2 S fun x y S => some (pc + 1, L, .long (x &&& y) :: S))
  | .lor => ck (n = 1) (l2 S fun x y S => some (pc + 1, L, .long (x ||| y) :: S))
  | .lxor => ck (n = 1) (l2 S fun x y S => some (pc + 1, L, .long (x ^^^ y) :: S))
  | .lushr => ck (n = 1) (il2 S fun x y S => some (pc + 1, L, .long (XT.ushrL x y) :: S))
  | .lshr => ck (n = 1) (il2 S fun x y S => some (pc + 1, L, .long (x >>> (y.toInt64 &&& 63)) :: S))
  | .lshl => ck (n = 1) (il2 S fun x y S => some (pc + 1, L, .long (x <<< (y.toInt64 &&& 63)) :: S))
  | .ldiv => ck (n = 1) (l2 S fun x y S => ck (y ≠ 0) (some (pc + 1, L, .long (x / y) :: S)))
  | .lrem => ck (n = 1) (l2 S fun x y S => ck (y ≠ 0) (some (pc + 1, L, .long (x % y) :: S)))
  | .lcmp => ck (n = 1) (l2 S fun x y S => some (pc + 1, L, .int (XT.cmpL x y) :: S))
  | .lneg => ck (n = 1) (l1 S fun x S => some (pc + 1, L, .long (-x) :: S))
  | .i2l => ck (n = 1) (i1 S fun x S => some (pc + 1, L, .long x.toInt64 :: S))
  | .l2i => ck (n = 1) (l1 S fun x S => some (pc + 1, L, .int x.toInt32 :: S))
  | .i2b => ck (n = 1) (i1 S fun x S => some (pc + 1, L, .int x.toInt8.toInt32 :: S))
  | .i2c => ck (n = 1) (i1 S fun x S => some (pc + 1, L, .int x.toUInt32.toUInt16.toUInt32.toInt32 :: S))
  | .istore_n k => ck (n = 1) (i1 S fun x S => st (storeLocals L k.val (.int x)) fun L => (pc + 1, L, S))
  | .istore k => ck (n = 2) (i1 S fun x S => st (storeLocals L k (.int x)) fun L => (pc + 2, L, S))
  | .lstore_n k => ck (n = 1) (l1 S fun x S => st (storeLocals L k.val (.long x)) fun L => (pc + 1, L, S))
  | .lstore k => ck (n = 2) (l1 S fun x S => st (storeLocals L k (.long x)) fun L => (pc + 2, L, S))
  | .astore_n k => ck (n = 1) (v1 S fun x S => ck (x.isRef = true) (st (storeLocals L k.val x) fun L => (pc + 1, L, S)))
  | .astore k => ck (n = 2) (v1 S fun x S => ck (x.isRef = true) (st (storeLocals L k x) fun L => (pc + 2, L, S)))
  | .iinc k i => ck (n = 3) (gi L k fun v => st (storeLocals L k (.int (v + Int32.ofInt i))) fun L => (pc + 3, L, S))
  | .dup => ck (n = 1) (v1 S fun x S => ck (x.category = 1) (some (pc + 1, L, x :: x :: S)))
  | .dup_x1 => ck (n = 1) (v2 S fun y x S => ck (x.category = 1 ∧ y.category = 1) (some (pc + 1, L, x :: y :: x :: S)))
  | .pop => ck (n = 1) (v1 S fun x S => ck (x.category = 1) (some (pc + 1, L, S)))
  | .goto o => ck (n = 3 ∧ 0 ≤ (pc : Int) + o) (some (((pc : Int) + o).toNat, L, S))
  | _ => none
set_option maxHeartbeats 4000000 in
theorem p1_sound {tb : Tables} [Ours tb] {e : Env} {below : List Frame} {T target : State} {m : MethodId} {c : Code} (h : At T m c below) (hx : tb.exec = Jvm.exec) {i : Instr} {n pc : Nat} {L : Array Slot} {S : List Value} {F : Fm}
    (hd : decode c.code pc = .ok (i, n)) (hp : p1 i n pc L S = some F) (hr : Steps tb e below (T.setTop (mkF m F.1 F.2.1 F.2.2)) target) : Steps tb e below (T.setTop (mkF m pc L S)) target := by
  cases i <;> simp only [p1, reduceCtorEq] at hp
  case iload_n k => obtain ⟨rfl, hp1⟩ := ck_inv hp; obtain ⟨v, hl, hp2⟩ := gi_inv hp1; cases hp2; exact XS.iloadN h hx rfl hd hl hr
  case iload k => obtain ⟨rfl, hp1⟩ := ck_inv hp; obtain ⟨v, hl, hp2⟩ := gi_inv hp1; cases hp2; exact XS.iload h hx rfl hd hl hr
  case lload_n k => obtain ⟨rfl, hp1⟩ := ck_inv hp; obtain ⟨v, hl, hp2⟩ := gl_inv hp1; cases hp2; exact XT.lloadN h hx rfl hd hl hr
  case lload k => obtain ⟨rfl, hp1⟩ := ck_inv hp; obtain ⟨v, hl, hp2⟩ := gl_inv hp1; cases hp2; exact XT.lload h hx rfl hd hl hr
  case aload_n k => obtain ⟨rfl, hp1⟩ := ck_inv hp; obtain ⟨v, hl, hv, hp2⟩ := gr_inv hp1; cases hp2; exact XS.aloadN h hx rfl hd hl hv hr
  case aload k => obtain ⟨rfl, hp1⟩ := ck_inv hp; obtain ⟨v, hl, hv, hp2⟩ := gr_inv hp1; cases hp2; exact XS.aload h hx rfl hd hl hv hr
  case iconst i => obtain ⟨rfl, hp1⟩ := ck_inv hp; cases hp1; exact XS.iconst h hx rfl hd hr
  case lconst i => obtain ⟨rfl, hp1⟩ := ck_inv hp; cases hp1; exact XT.lconst h hx rfl hd hr
  case bipush i => obtain ⟨rfl, hp1⟩ := ck_inv hp; cases hp1; exact XS.bipush h hx rfl hd hr
  case sipush i => obtain ⟨rfl, hp1⟩ := ck_inv hp; cases hp1; exact XS.sipush h hx rfl hd hr
  case aconst_null => obtain ⟨rfl, hp1⟩ := ck_inv hp; cases hp1; exact XS.aconstNull h hx rfl hd hr
  case iadd => obtain ⟨rfl, hp1⟩ := ck_inv hp; obtain ⟨x, y, S', rfl, hp2⟩ := i2_inv hp1; cases hp2; exact XS.iadd h hx rfl hd rfl hr
  case isub => obtain ⟨rfl, hp1⟩ := ck_inv hp; obtain ⟨x, y, S', rfl, hp2⟩ := i2_inv hp1; cases hp2; exact XS.isub h hx rfl hd rfl hr
  case imul => obtain ⟨rfl, hp1⟩ := ck_inv hp; obtain ⟨x, y, S', rfl, hp2⟩ := i2_inv hp1; cases hp2; exact XS.imul h hx rfl hd rfl hr
  case iand => obtain ⟨rfl, hp1⟩ := ck_inv hp; obtain ⟨x, y, S', rfl, hp2⟩ := i2_inv hp1; cases hp2; exact XS.iand h hx rfl hd rfl hr
  case ior => obtain ⟨rfl, hp1⟩ := ck_inv hp; obtain ⟨x, y, S', rfl, hp2⟩ := i2_inv hp1; cases hp2; exact XT.ior h hx rfl hd rfl hr
  case ixor => obtain ⟨rfl, hp1⟩ := ck_inv hp; obtain ⟨x, y, S', rfl, hp2⟩ := i2_inv hp1; cases hp2; exact XT.ixor h hx rfl hd rfl hr
  case ishl => obtain ⟨rfl, hp1⟩ := ck_inv hp; obtain ⟨x, y, S', rfl, hp2⟩ := i2_inv hp1; cases hp2; exact XT.ishl h hx rfl hd rfl hr
  case ishr => obtain ⟨rfl, hp1⟩ := ck_inv hp; obtain ⟨x, y, S', rfl, hp2⟩ := i2_inv hp1; cases hp2; exact XT.ishr h hx rfl hd rfl hr
  case iushr => obtain ⟨rfl, hp1⟩ := ck_inv hp; obtain ⟨x, y, S', rfl, hp2⟩ := i2_inv hp1; cases hp2; exact XT.iushr h hx rfl hd rfl hr
  case irem => obtain ⟨rfl, hp1⟩ := ck_inv hp; obtain ⟨x, y, S', rfl, hp2⟩ := i2_inv hp1; obtain ⟨hy, hp3⟩ := ck_inv hp2; cases hp3; exact XS.irem h hx rfl hd rfl hy (by rw [irem_eq_mod]; exact hr)
  case idiv => obtain ⟨rfl, hp1⟩ := ck_inv hp; obtain ⟨x, y, S', rfl, hp2⟩ := i2_inv hp1; obtain ⟨hy, hp3⟩ := ck_inv hp2; cases hp3; exact XS.idiv h hx rfl hd rfl hy hr
  case ineg => obtain ⟨rfl, hp1⟩ := ck_inv hp; obtain ⟨x, S', rfl, hp2⟩ := i1_inv hp1; cases hp2; exact XS.ineg h hx rfl hd rfl hr
  case ladd => obtain ⟨rfl, hp1⟩ := ck_inv hp; obtain ⟨x, y, S', rfl, hp2⟩ := l2_inv hp1; cases hp2; exact XT.ladd h hx rfl hd rfl hr
  case lsub => obtain ⟨rfl, hp1⟩ := ck_inv hp; obtain ⟨x, y, S', rfl, hp2⟩ := l2_inv hp1; cases hp2; exact XT.lsub h hx rfl hd rfl hr
  case lmul => obtain ⟨rfl, hp1⟩ := ck_inv hp; obtain ⟨x, y, S', rfl, hp2⟩ := l2_inv hp1; cases hp2; exact XT.lmul h hx rfl hd rfl hr
  case land => obtain ⟨rfl, hp1⟩ := ck_inv hp; obtain ⟨x, y, S', rfl, hp2⟩ := l2_inv hp1; cases hp2; exact XT.land h hx rfl hd rfl hr
  case lor => obtain ⟨rfl, hp1⟩ := ck_inv hp; obtain ⟨x, y, S', rfl, hp2⟩ := l2_inv hp1; cases hp2; exact XT.lor h hx rfl hd rfl hr
  case lxor => obtain ⟨rfl, hp1⟩ := ck_inv hp; obtain ⟨x, y, S', rfl, hp2⟩ := l2_inv hp1; cases hp2; exact XT.lxor h hx rfl hd rfl hr
  case lushr => obtain ⟨rfl, hp1⟩ := ck_inv hp; obtain ⟨x, y, S', rfl, hp2⟩ := il2_inv hp1; cases hp2; exact XT.lushr h hx rfl hd rfl hr
  case lshr => obtain ⟨rfl, hp1⟩ := ck_inv hp; obtain ⟨x, y, S', rfl, hp2⟩ := il2_inv hp1; cases hp2; exact XT.lshr h hx rfl hd rfl hr
  case lshl => obtain ⟨rfl, hp1⟩ := ck_inv hp; obtain ⟨x, y, S', rfl, hp2⟩ := il2_inv hp1; cases hp2; exact XT.lshl h hx rfl hd rfl hr
  case ldiv => obtain ⟨rfl, hp1⟩ := ck_inv hp; obtain ⟨x, y, S', rfl, hp2⟩ := l2_inv hp1; obtain ⟨hy, hp3⟩ := ck_inv hp2; cases hp3; exact XT.ldiv h hx rfl hd rfl hy hr
  case lrem => obtain ⟨rfl, hp1⟩ := ck_inv hp; obtain ⟨x, y, S', rfl, hp2⟩ := l2_inv hp1; obtain ⟨hy, hp3⟩ := ck_inv hp2; cases hp3; exact XT.lrem h hx rfl hd rfl hy (by rw [lrem_mod]; exact hr)
  case lcmp => obtain ⟨rfl, hp1⟩ := ck_inv hp; obtain ⟨x, y, S', rfl, hp2⟩ := l2_inv hp1; cases hp2; exact XT.lcmp h hx rfl hd rfl hr
  case lneg => obtain ⟨rfl, hp1⟩ := ck_inv hp; obtain ⟨x, S', rfl, hp2⟩ := l1_inv hp1; cases hp2; exact XT.lneg h hx rfl hd rfl hr
  case i2l => obtain ⟨rfl, hp1⟩ := ck_inv hp; obtain ⟨x, S', rfl, hp2⟩ := i1_inv hp1; cases hp2; exact XT.i2l h hx rfl hd rfl hr
  case l2i => obtain ⟨rfl, hp1⟩ := ck_inv hp; obtain ⟨x, S', rfl, hp2⟩ := l1_inv hp1; cases hp2; exact XT.l2i h hx rfl hd rfl hr
  case i2b => obtain ⟨rfl, hp1⟩ := ck_inv hp; obtain ⟨x, S', rfl, hp2⟩ := i1_inv hp1; cases hp2; exact XT.i2b h hx rfl hd rfl hr
  case i2c => obtain ⟨rfl, hp1⟩ := ck_inv hp; obtain ⟨x, S', rfl, hp2⟩ := i1_inv hp1; cases hp2; exact XT.i2c h hx rfl hd rfl hr
  case istore_n k => obtain ⟨rfl, hp1⟩ := ck_inv hp; obtain ⟨x, S', rfl, hp2⟩ := i1_inv hp1; obtain ⟨L1, hl, rfl⟩ := st_inv hp2; exact XS.istoreN h hx rfl hd rfl hl hr
  case istore k => obtain ⟨rfl, hp1⟩ := ck_inv hp; obtain ⟨x, S', rfl, hp2⟩ := i1_inv hp1; obtain ⟨L1, hl, rfl⟩ := st_inv hp2; exact XS.istore h hx rfl hd rfl hl hr
  case lstore_n k => obtain ⟨rfl, hp1⟩ := ck_inv hp; obtain ⟨x, S', rfl, hp2⟩ := l1_inv hp1; obtain ⟨L1, hl, rfl⟩ := st_inv hp2; exact XT.lstoreN h hx rfl hd rfl hl hr
  case lstore k => obtain ⟨rfl, hp1⟩ := ck_inv hp; obtain ⟨x, S', rfl, hp2⟩ := l1_inv hp1; obtain ⟨L1, hl, rfl⟩ := st_inv hp2; exact XT.lstore h hx rfl hd rfl hl hr
  case astore_n k => obtain ⟨rfl, hp1⟩ := ck_inv hp; obtain ⟨x, S', rfl, hp2⟩ := v1_inv hp1; obtain ⟨hv, hp3⟩ := ck_inv hp2; obtain ⟨L1, hl, rfl⟩ := st_inv hp3; exact XS.astoreN h hx rfl hd rfl hv hl hr
  case astore k => obtain ⟨rfl, hp1⟩ := ck_inv hp; obtain ⟨x, S', rfl, hp2⟩ := v1_inv hp1; obtain ⟨hv, hp3⟩ := ck_inv hp2; obtain ⟨L1, hl, rfl⟩ := st_inv hp3; exact XS.astore h hx rfl hd rfl hv hl hr
  case iinc k i => obtain ⟨rfl, hp1⟩ := ck_inv hp; obtain ⟨v, hl, hp2⟩ := gi_inv hp1; obtain ⟨L1, hl', rfl⟩ := st_inv hp2; exact XS.iinc h hx rfl hd hl hl' hr
  case dup => obtain ⟨rfl, hp1⟩ := ck_inv hp; obtain ⟨x, S', rfl, hp2⟩ := v1_inv hp1; obtain ⟨hc, hp3⟩ := ck_inv hp2; cases hp3; exact XS.dup h hx rfl hd rfl hc hr
  case dup_x1 => obtain ⟨rfl, hp1⟩ := ck_inv hp; obtain ⟨y, x, S', rfl, hp2⟩ := v2_inv hp1; obtain ⟨hc, hp3⟩ := ck_inv hp2; cases hp3; exact XT.dupX1 h hx rfl hd rfl hc.1 hc.2 hr
  case pop => obtain ⟨rfl, hp1⟩ := ck_inv hp; obtain ⟨x, S', rfl, hp2⟩ := v1_inv hp1; obtain ⟨hc, hp3⟩ := ck_inv hp2; cases hp3; exact XT.pop h hx rfl hd rfl hc hr
  case goto o => obtain ⟨⟨rfl, ho⟩, hp1⟩ := ck_inv hp; cases hp1; exact XS.goto h hx rfl (pc0 := pc) rfl hd ho rfl hr
/-- a straight road: each row a pc, its instruction, its length -/
def run : List (Nat × Instr × Nat) → Fm → Option Fm
  | [], F => some F
  | (q, i, n) :: r, F => if q = F.1 then (p1 i n F.1 F.2.1 F.2.2).bind (run r) else none
theorem run_cons {q : Nat} {i : Instr} {n : Nat} {r : List (Nat × Instr × Nat)} {F F' : Fm} (hp : run ((q, i, n) :: r) F = some F') : q = F.1 ∧ ∃ F1, p1 i n F.1 F.2.1 F.2.2 = some F1 ∧ run r F1 = some F' := by
  have hp' : (if q = F.1 then (p1 i n F.1 F.2.1 F.2.2).bind (run r) else none) = some F' := hp
  by_cases hq : q = F.1
  · rw [if_pos hq] at hp'
    exact ⟨hq, Option.bind_eq_some_iff.mp hp'⟩
  · rw [if_neg hq] at hp'
    exact nomatch hp'
theorem run_sound {tb : Tables} [Ours tb] {e : Env} {below : List Frame} {T target : State} {m : MethodId} {c : Code} (h : At T m c below) (hx : tb.exec = Jvm.exec) : ∀ (seg : List (Nat × Instr × Nat)) (F F' : Fm),
    (∀ x ∈ seg, decode c.code x.1 = .ok x.2) → run seg F = some F' → Steps tb e below (T.setTop (mkF m F'.1 F'.2.1 F'.2.2)) target → Steps tb e below (T.setTop (mkF m F.1 F.2.1 F.2.2)) target := by
  intro seg
  induction seg with
  | nil => intro F F' _ hp hr; cases hp; exact hr
  | cons a r ih =>
    intro F F' hd hp hr
    obtain ⟨q, i, n⟩ := a
    obtain ⟨hq, F1, h1, h2⟩ := run_cons hp
    have hd0 := hd _ (List.mem_cons_self ..)
    rw [show ((q, i, n) : Nat × Instr × Nat).1 = q from rfl, hq] at hd0
    exact p1_sound h hx hd0 h1 (ih F1 F' (fun x hm => hd x (List.mem_cons_of_mem _ hm)) h2 hr)
theorem ef_of {m : MethodId} {args : Array Value} {n : Nat} {Ls : Array Slot} (h : Jvm.Sym.laidSlots args.toList ++ List.replicate (n - (Jvm.Sym.laidSlots args.toList).length) .unset = Ls.toList) : entryFrame m args n = mkF m 0 Ls [] := by
  have : argsToLocals args n = Ls := Array.toList_inj.mp (by rw [Jvm.Sym.argsToLocals_toList]; exact h)
  unfold entryFrame
  rw [this]
theorem lb {a b : Nat} (h : Nat.ble a b = true) : a ≤ b := Nat.le_of_ble_eq_true h
theorem tw {tbl : List Jvm.Cond} {c : Jvm.Cond} (i : Nat) (h : tbl[i]? = some c) : c ∈ tbl := List.mem_of_getElem? h
/-! ## 2. The walk's standing: G -/
section G
variable {l : Launch} {Z : State} {a0 : Array Value} {EL : List (String × Nat)} {tbl : List Jvm.Cond} {n0 : Nat} {code : ByteArray} {maxL : Nat} {ret : Option FieldType} {R : Room} {own mname : String} {Q : Option Value → Heap → Prop} {h h' h1 h2 : Heap} {cells slots pc : Nat} {L : Array Slot} {S : List Value}
def Pos (l : Launch) (Z : State) (a0 : Array Value) (EL : List (String × Nat)) (tbl : List Jvm.Cond) (n0 : Nat) (code : ByteArray) (maxL : Nat) (ret : Option FieldType) (R : Room) (own mname : String) (h : Heap) (cells slots : Nat)
    (p : Program) (e : Env) (s : State) (m : MethodId) (args : Array Value) (below : List Frame) (meth : Method) (c : Code) (T : State) (vm0 : Vm) (k0 : Nat) (locs : List Loc) : Prop :=
  p.tables.exec = Jvm.exec ∧ c.code = code ∧ c.maxLocals = maxL ∧ meth.sig.returnType = ret ∧ meth.locks = false ∧ meth.name = mname ∧ EW Z a0 EL ∧ (∀ d ∈ tbl, d.before a0 Z = true) ∧
  Stand p l e R (s.setVm vm0) m args below meth c T locs cells slots ∧ T.heap = h ∧ s.Since vm0 k0 ∧ k0 ≤ h.size ∧ Z.Warmed39 vm0 ∧ vm0.findClass own = some m.cls ∧ Fr n0 locs ∧ CHr Z EL s.vm s.heap vm0 h ∧ Old Z n0 h ∧ (EL = [] → s.WarmedH vm0)
def End (Z : State) (EL : List (String × Nat)) (n0 : Nat) (R : Room) (Q : Option Value → Heap → Prop) (s : State) (o : Outcome) (t : State) : Prop :=
  ∃ v L', o = .returned v ∧ (Fr n0 L' ∧ Old Z n0 t.heap ∧ Q v t.heap) ∧ CHr Z EL s.vm s.heap t.vm t.heap ∧ ReturnedEndW s o t L' R.cells R.slots ∧ (EL = [] → s.WarmedH t.vm)
/-- from here the walk comes to its end, and Q holds there -/
def G (l : Launch) (Z : State) (a0 : Array Value) (EL : List (String × Nat)) (tbl : List Jvm.Cond) (n0 : Nat) (code : ByteArray) (maxL : Nat) (ret : Option FieldType) (R : Room) (own mname : String) (Q : Option Value → Heap → Prop)
    (h : Heap) (cells slots pc : Nat) (L : Array Slot) (S : List Value) : Prop :=
  ∀ p e s m args below meth c T vm0 k0 locs, Pos l Z a0 EL tbl n0 code maxL ret R own mname h cells slots p e s m args below meth c T vm0 k0 locs →
    ∃ s₂ o, Steps p.tables e below (T.setTop (mkF m pc L S)) s₂ ∧ s₂.status = .running ∧ Ended s₂ below o ∧ End Z EL n0 R Q s o s₂
theorem back_steps {p : Program} {e : Env} {below : List Frame} {A B : State} {P : State → Outcome → Prop} (st : ∀ t, Steps p.tables e below B t → Steps p.tables e below A t)
    (k : ∃ s₂ o, Steps p.tables e below B s₂ ∧ s₂.status = .running ∧ Ended s₂ below o ∧ P s₂ o) : ∃ s₂ o, Steps p.tables e below A s₂ ∧ s₂.status = .running ∧ Ended s₂ below o ∧ P s₂ o := by
  obtain ⟨s₂, o, h1, h2⟩ := k; exact ⟨s₂, o, st _ h1, h2⟩
theorem G.seg (seg : List (Nat × Instr × Nat)) (hdec : ∀ x ∈ seg, decode code x.1 = .ok x.2) {pc' : Nat} {L' : Array Slot} {S' : List Value} (hrun : run seg (pc, L, S) = some (pc', L', S'))
    (k : G l Z a0 EL tbl n0 code maxL ret R own mname Q h cells slots pc' L' S') : G l Z a0 EL tbl n0 code maxL ret R own mname Q h cells slots pc L S := by
  intro p e s m args below meth c T vm0 k0 locs P
  obtain ⟨hx, hby, -, -, -, -, -, -, X, -⟩ := id P
  exact back_steps (fun t ht => run_sound X.here hx seg (pc, L, S) (pc', L', S') (fun x hm => hb hby (hdec x hm)) hrun ht) (k p e s m args below meth c T vm0 k0 locs P)
theorem G.more {cells' slots' : Nat} (hc : cells ≤ cells') (hs : slots ≤ slots') (k : G l Z a0 EL tbl n0 code maxL ret R own mname Q h cells' slots' pc L S) : G l Z a0 EL tbl n0 code maxL ret R own mname Q h cells slots pc L S := by
  intro p e s m args below meth c T vm0 k0 locs P
  obtain ⟨h1, h2, h3, h4, h5, h6, h7, h8, X, r⟩ := P
  exact k p e s m args below meth c T vm0 k0 locs ⟨h1, h2, h3, h4, h5, h6, h7, h8, X.mono hc hs, r⟩
/-- a place where roads meet: proved once -/
theorem G.join {α : Type} (P : α → Prop) (J : α → Heap × Nat × Nat × Nat × Array Slot × List Value)
    (k : (∀ x, P x → G l Z a0 EL tbl n0 code maxL ret R own mname Q (J x).1 (J x).2.1 (J x).2.2.1 (J x).2.2.2.1 (J x).2.2.2.2.1 (J x).2.2.2.2.2) → G l Z a0 EL tbl n0 code maxL ret R own mname Q h cells slots pc L S)
    (hj : ∀ x, P x → G l Z a0 EL tbl n0 code maxL ret R own mname Q (J x).1 (J x).2.1 (J x).2.2.1 (J x).2.2.2.1 (J x).2.2.2.2.1 (J x).2.2.2.2.2) : G l Z a0 EL tbl n0 code maxL ret R own mname Q h cells slots pc L S := k hj
/-! branches -/
theorem G.if0 {cd : ClassFile.Cond} {o : Int} {x : Int32} {pc' : Nat} (hd : decode code pc = .ok (.ifCond cd o, 3)) (ho : 0 ≤ (pc : Int) + o) (hp : ((pc : Int) + o).toNat = pc')
    (ky : ifCond.holds cd x = true → G l Z a0 EL tbl n0 code maxL ret R own mname Q h cells slots pc' L S) (kn : ifCond.holds cd x = false → G l Z a0 EL tbl n0 code maxL ret R own mname Q h cells slots (pc + 3) L S) :
    G l Z a0 EL tbl n0 code maxL ret R own mname Q h cells slots pc L (.int x :: S) := by
  intro p e s m args below meth c T vm0 k0 locs P
  obtain ⟨hx, hby, -, -, -, -, -, -, X, -⟩ := id P
  cases hc : ifCond.holds cd x
  · exact back_steps (fun t ht => XS.ifNo X.here hx rfl (hb hby hd) rfl hc ht) (kn hc p e s m args below meth c T vm0 k0 locs P)
  · exact back_steps (fun t ht => XS.ifYes X.here hx rfl (pc0 := pc) rfl (hb hby hd) rfl hc ho hp ht) (ky hc p e s m args below meth c T vm0 k0 locs P)
theorem G.icmp {cd : ClassFile.Cond} {o : Int} {x y : Int32} {pc' : Nat} (hd : decode code pc = .ok (.if_icmp cd o, 3)) (ho : 0 ≤ (pc : Int) + o) (hp : ((pc : Int) + o).toNat = pc')
    (ky : if_icmp.holds cd x y = true → G l Z a0 EL tbl n0 code maxL ret R own mname Q h cells slots pc' L S) (kn : if_icmp.holds cd x y = false → G l Z a0 EL tbl n0 code maxL ret R own mname Q h cells slots (pc + 3) L S) :
    G l Z a0 EL tbl n0 code maxL ret R own mname Q h cells slots pc L (.int y :: .int x :: S) := by
  intro p e s m args below meth c T vm0 k0 locs P
  obtain ⟨hx, hby, -, -, -, -, -, -, X, -⟩ := id P
  cases hc : if_icmp.holds cd x y
  · exact back_steps (fun t ht => XS.icmpNo X.here hx rfl (hb hby hd) rfl hc ht) (kn hc p e s m args below meth c T vm0 k0 locs P)
  · exact back_steps (fun t ht => XS.icmpYes X.here hx rfl (pc0 := pc) rfl (hb hby hd) rfl hc ho hp ht) (ky hc p e s m args below meth c T vm0 k0 locs P)
theorem G.ifeq {o : Int} {x : Int32} {pc' : Nat} (hd : decode code pc = .ok (.ifCond .eq o, 3)) (ho : 0 ≤ (pc : Int) + o) (hp : ((pc : Int) + o).toNat = pc')
    (ky : x = 0 → G l Z a0 EL tbl n0 code maxL ret R own mname Q h cells slots pc' L S) (kn : ¬ x = 0 → G l Z a0 EL tbl n0 code maxL ret R own mname Q h cells slots (pc + 3) L S) : G l Z a0 EL tbl n0 code maxL ret R own mname Q h cells slots pc L (.int x :: S) := by
  by_cases z : x = 0
  · exact G.if0 (cd := .eq) hd ho hp (fun _ => ky z) (fun q => absurd q (by rw [XT.i0_eq_t z]; decide))
  · exact G.if0 (cd := .eq) hd ho hp (fun q => absurd q (by rw [XT.i0_eq_f z]; decide)) (fun _ => kn z)
theorem G.ifne {o : Int} {x : Int32} {pc' : Nat} (hd : decode code pc = .ok (.ifCond .ne o, 3)) (ho : 0 ≤ (pc : Int) + o) (hp : ((pc : Int) + o).toNat = pc')
    (ky : ¬ x = 0 → G l Z a0 EL tbl n0 code maxL ret R own mname Q h cells slots pc' L S) (kn : x = 0 → G l Z a0 EL tbl n0 code maxL ret R own mname Q h cells slots (pc + 3) L S) : G l Z a0 EL tbl n0 code maxL ret R own mname Q h cells slots pc L (.int x :: S) := by
  by_cases z : x = 0
  · exact G.if0 (cd := .ne) hd ho hp (fun q => absurd q (by rw [XT.i0_ne_f z]; decide)) (fun _ => kn z)
  · exact G.if0 (cd := .ne) hd ho hp (fun _ => ky z) (fun q => absurd q (by rw [XT.i0_ne_t z]; decide))
theorem G.iflt {o : Int} {x : Int32} {pc' : Nat} (hd : decode code pc = .ok (.ifCond .lt o, 3)) (ho : 0 ≤ (pc : Int) + o) (hp : ((pc : Int) + o).toNat = pc')
    (ky : x < 0 → G l Z a0 EL tbl n0 code maxL ret R own mname Q h cells slots pc' L S) (kn : ¬ x < 0 → G l Z a0 EL tbl n0 code maxL ret R own mname Q h cells slots (pc + 3) L S) : G l Z a0 EL tbl n0 code maxL ret R own mname Q h cells slots pc L (.int x :: S) := by
  by_cases z : x < 0
  · exact G.if0 (cd := .lt) hd ho hp (fun _ => ky z) (fun q => absurd q (by rw [XT.i0_lt_t z]; decide))
  · exact G.if0 (cd := .lt) hd ho hp (fun q => absurd q (by rw [XT.i0_lt_f z]; decide)) (fun _ => kn z)
theorem G.ifge {o : Int} {x : Int32} {pc' : Nat} (hd : decode code pc = .ok (.ifCond .ge o, 3)) (ho : 0 ≤ (pc : Int) + o) (hp : ((pc : Int) + o).toNat = pc')
    (ky : ¬ x < 0 → G l Z a0 EL tbl n0 code maxL ret R own mname Q h cells slots pc' L S) (kn : x < 0 → G l Z a0 EL tbl n0 code maxL ret R own mname Q h cells slots (pc + 3) L S) : G l Z a0 EL tbl n0 code maxL ret R own mname Q h cells slots pc L (.int x :: S) := by
  by_cases z : x < 0
  · exact G.if0 (cd := .ge) hd ho hp (fun q => absurd q (by rw [XT.i0_ge_f z]; decide)) (fun _ => kn z)
  · exact G.if0 (cd := .ge) hd ho hp (fun _ => ky z) (fun q => absurd q (by rw [XT.i0_ge_t z]; decide))
theorem G.ifgt {o : Int} {x : Int32} {pc' : Nat} (hd : decode code pc = .ok (.ifCond .gt o, 3)) (ho : 0 ≤ (pc : Int) + o) (hp : ((pc : Int) + o).toNat = pc')
    (ky : 0 < x → G l Z a0 EL tbl n0 code maxL ret R own mname Q h cells slots pc' L S) (kn : ¬ 0 < x → G l Z a0 EL tbl n0 code maxL ret R own mname Q h cells slots (pc + 3) L S) : G l Z a0 EL tbl n0 code maxL ret R own mname Q h cells slots pc L (.int x :: S) := by
  by_cases z : 0 < x
  · exact G.if0 (cd := .gt) hd ho hp (fun _ => ky z) (fun q => absurd q (by rw [XT.i0_gt_t z]; decide))
  · exact G.if0 (cd := .gt) hd ho hp (fun q => absurd q (by rw [XT.i0_gt_f z]; decide)) (fun _ => kn z)
theorem G.ifle {o : Int} {x : Int32} {pc' : Nat} (hd : decode code pc = .ok (.ifCond .le o, 3)) (ho : 0 ≤ (pc : Int) + o) (hp : ((pc : Int) + o).toNat = pc')
    (ky : ¬ 0 < x → G l Z a0 EL tbl n0 code maxL ret R own mname Q h cells slots pc' L S) (kn : 0 < x → G l Z a0 EL tbl n0 code maxL ret R own mname Q h cells slots (pc + 3) L S) : G l Z a0 EL tbl n0 code maxL ret R own mname Q h cells slots pc L (.int x :: S) := by
  by_cases z : 0 < x
  · exact G.if0 (cd := .le) hd ho hp (fun q => absurd q (by rw [XT.i0_le_f z]; decide)) (fun _ => kn z)
  · exact G.if0 (cd := .le) hd ho hp (fun _ => ky z) (fun q => absurd q (by rw [XT.i0_le_t z]; decide))
theorem G.iceq {o : Int} {x y : Int32} {pc' : Nat} (hd : decode code pc = .ok (.if_icmp .eq o, 3)) (ho : 0 ≤ (pc : Int) + o) (hp : ((pc : Int) + o).toNat = pc')
    (ky : x = y → G l Z a0 EL tbl n0 code maxL ret R own mname Q h cells slots pc' L S) (kn : ¬ x = y → G l Z a0 EL tbl n0 code maxL ret R own mname Q h cells slots (pc + 3) L S) : G l Z a0 EL tbl n0 code maxL ret R own mname Q h cells slots pc L (.int y :: .int x :: S) := by
  by_cases z : x = y
  · exact G.icmp (cd := .eq) hd ho hp (fun _ => ky z) (fun q => absurd q (by rw [XT.ii_eq_t z]; decide))
  · exact G.icmp (cd := .eq) hd ho hp (fun q => absurd q (by rw [XT.ii_eq_f z]; decide)) (fun _ => kn z)
theorem G.icne {o : Int} {x y : Int32} {pc' : Nat} (hd : decode code pc = .ok (.if_icmp .ne o, 3)) (ho : 0 ≤ (pc : Int) + o) (hp : ((pc : Int) + o).toNat = pc')
    (ky : ¬ x = y → G l Z a0 EL tbl n0 code maxL ret R own mname Q h cells slots pc' L S) (kn : x = y → G l Z a0 EL tbl n0 code maxL ret R own mname Q h cells slots (pc + 3) L S) : G l Z a0 EL tbl n0 code maxL ret R own mname Q h cells slots pc L (.int y :: .int x :: S) := by
  by_cases z : x = y
  · exact G.icmp (cd := .ne) hd ho hp (fun q => absurd q (by rw [XT.ii_ne_f z]; decide)) (fun _ => kn z)
  · exact G.icmp (cd := .ne) hd ho hp (fun _ => ky z) (fun q => absurd q (by rw [XT.ii_ne_t z]; decide))
theorem G.iclt {o : Int} {x y : Int32} {pc' : Nat} (hd : decode code pc = .ok (.if_icmp .lt o, 3)) (ho : 0 ≤ (pc : Int) + o) (hp : ((pc : Int) + o).toNat = pc')
    (ky : x < y → G l Z a0 EL tbl n0 code maxL ret R own mname Q h cells slots pc' L S) (kn : ¬ x < y → G l Z a0 EL tbl n0 code maxL ret R own mname Q h cells slots (pc + 3) L S) : G l Z a0 EL tbl n0 code maxL ret R own mname Q h cells slots pc L (.int y :: .int x :: S) := by
  by_cases z : x < y
  · exact G.icmp (cd := .lt) hd ho hp (fun _ => ky z) (fun q => absurd q (by rw [XT.ii_lt_t z]; decide))
  · exact G.icmp (cd := .lt) hd ho hp (fun q => absurd q (by rw [XT.ii_lt_f z]; decide)) (fun _ => kn z)
theorem G.icge {o : Int} {x y : Int32} {pc' : Nat} (hd : decode code pc = .ok (.if_icmp .ge o, 3)) (ho : 0 ≤ (pc : Int) + o) (hp : ((pc : Int) + o).toNat = pc')
    (ky : ¬ x < y → G l Z a0 EL tbl n0 code maxL ret R own mname Q h cells slots pc' L S) (kn : x < y → G l Z a0 EL tbl n0 code maxL ret R own mname Q h cells slots (pc + 3) L S) : G l Z a0 EL tbl n0 code maxL ret R own mname Q h cells slots pc L (.int y :: .int x :: S) := by
  by_cases z : x < y
  · exact G.icmp (cd := .ge) hd ho hp (fun q => absurd q (by rw [XT.ii_ge_f z]; decide)) (fun _ => kn z)
  · exact G.icmp (cd := .ge) hd ho hp (fun _ => ky z) (fun q => absurd q (by rw [XT.ii_ge_t z]; decide))
theorem G.icgt {o : Int} {x y : Int32} {pc' : Nat} (hd : decode code pc = .ok (.if_icmp .gt o, 3)) (ho : 0 ≤ (pc : Int) + o) (hp : ((pc : Int) + o).toNat = pc')
    (ky : y < x → G l Z a0 EL tbl n0 code maxL ret R own mname Q h cells slots pc' L S) (kn : ¬ y < x → G l Z a0 EL tbl n0 code maxL ret R own mname Q h cells slots (pc + 3) L S) : G l Z a0 EL tbl n0 code maxL ret R own mname Q h cells slots pc L (.int y :: .int x :: S) := by
  by_cases z : y < x
  · exact G.icmp (cd := .gt) hd ho hp (fun _ => ky z) (fun q => absurd q (by rw [XT.ii_gt_t z]; decide))
  · exact G.icmp (cd := .gt) hd ho hp (fun q => absurd q (by rw [XT.ii_gt_f z]; decide)) (fun _ => kn z)
theorem G.icle {o : Int} {x y : Int32} {pc' : Nat} (hd : decode code pc = .ok (.if_icmp .le o, 3)) (ho : 0 ≤ (pc : Int) + o) (hp : ((pc : Int) + o).toNat = pc')
    (ky : ¬ y < x → G l Z a0 EL tbl n0 code maxL ret R own mname Q h cells slots pc' L S) (kn : y < x → G l Z a0 EL tbl n0 code maxL ret R own mname Q h cells slots (pc + 3) L S) : G l Z a0 EL tbl n0 code maxL ret R own mname Q h cells slots pc L (.int y :: .int x :: S) := by
  by_cases z : y < x
  · exact G.icmp (cd := .le) hd ho hp (fun q => absurd q (by rw [XT.ii_le_f z]; decide)) (fun _ => kn z)
  · exact G.icmp (cd := .le) hd ho hp (fun _ => ky z) (fun q => absurd q (by rw [XT.ii_le_t z]; decide))
theorem G.nulljmp {o : Int} {w : Value} {pc' : Nat} (hw : w.isRef = true) (hd : decode code pc = .ok (.ifnull o, 3)) (ho : 0 ≤ (pc : Int) + o) (hp : ((pc : Int) + o).toNat = pc')
    (ky : w = .null → G l Z a0 EL tbl n0 code maxL ret R own mname Q h cells slots pc' L S) (kn : ¬ w = .null → G l Z a0 EL tbl n0 code maxL ret R own mname Q h cells slots (pc + 3) L S) : G l Z a0 EL tbl n0 code maxL ret R own mname Q h cells slots pc L (w :: S) := by
  intro p e s m args below meth c T vm0 k0 locs P
  obtain ⟨hx, hby, -, -, -, -, -, -, X, -⟩ := id P
  rcases ref_cases hw with rfl | ⟨a, rfl⟩
  · exact back_steps (fun t ht => XS.ifnullYes X.here hx rfl (pc0 := pc) rfl (hb hby hd) rfl ho hp ht) (ky rfl p e s m args below meth c T vm0 k0 locs P)
  · exact back_steps (fun t ht => XS.ifnullNo X.here hx rfl (hb hby hd) rfl ht) (kn (fun q => nomatch q) p e s m args below meth c T vm0 k0 locs P)
theorem G.nonnulljmp {o : Int} {w : Value} {pc' : Nat} (hw : w.isRef = true) (hd : decode code pc = .ok (.ifnonnull o, 3)) (ho : 0 ≤ (pc : Int) + o) (hp : ((pc : Int) + o).toNat = pc')
    (ky : ¬ w = .null → G l Z a0 EL tbl n0 code maxL ret R own mname Q h cells slots pc' L S) (kn : w = .null → G l Z a0 EL tbl n0 code maxL ret R own mname Q h cells slots (pc + 3) L S) : G l Z a0 EL tbl n0 code maxL ret R own mname Q h cells slots pc L (w :: S) := by
  intro p e s m args below meth c T vm0 k0 locs P
  obtain ⟨hx, hby, -, -, -, -, -, -, X, -⟩ := id P
  rcases ref_cases hw with rfl | ⟨a, rfl⟩
  · exact back_steps (fun t ht => XT.ifnonnullNo X.here hx rfl (hb hby hd) rfl ht) (kn rfl p e s m args below meth c T vm0 k0 locs P)
  · exact back_steps (fun t ht => XT.ifnonnullYes X.here hx rfl (pc0 := pc) rfl (hb hby hd) rfl ho hp ht) (ky (fun q => nomatch q) p e s m args below meth c T vm0 k0 locs P)
theorem G.acne {o : Int} {x y : Value} {pc' : Nat} (hx1 : x.isRef = true) (hy1 : y.isRef = true) (hd : decode code pc = .ok (.if_acmp .ne o, 3)) (ho : 0 ≤ (pc : Int) + o) (hp : ((pc : Int) + o).toNat = pc')
    (ky : ¬ x = y → G l Z a0 EL tbl n0 code maxL ret R own mname Q h cells slots pc' L S) (kn : x = y → G l Z a0 EL tbl n0 code maxL ret R own mname Q h cells slots (pc + 3) L S) : G l Z a0 EL tbl n0 code maxL ret R own mname Q h cells slots pc L (y :: x :: S) := by
  intro p e s m args below meth c T vm0 k0 locs P
  obtain ⟨hx, hby, -, -, -, -, -, -, X, -⟩ := id P
  by_cases z : x = y
  · exact back_steps (fun t ht => XT.acmpNo X.here hx rfl (hb hby hd) rfl hx1 hy1 (XT.aa_ne_f z) ht) (kn z p e s m args below meth c T vm0 k0 locs P)
  · exact back_steps (fun t ht => XT.acmpYes X.here hx rfl (pc0 := pc) rfl (hb hby hd) rfl hx1 hy1 (XT.aa_ne_t z) ho hp ht) (ky z p e s m args below meth c T vm0 k0 locs P)
theorem G.aceq {o : Int} {x y : Value} {pc' : Nat} (hx1 : x.isRef = true) (hy1 : y.isRef = true) (hd : decode code pc = .ok (.if_acmp .eq o, 3)) (ho : 0 ≤ (pc : Int) + o) (hp : ((pc : Int) + o).toNat = pc')
    (ky : x = y → G l Z a0 EL tbl n0 code maxL ret R own mname Q h cells slots pc' L S) (kn : ¬ x = y → G l Z a0 EL tbl n0 code maxL ret R own mname Q h cells slots (pc + 3) L S) : G l Z a0 EL tbl n0 code maxL ret R own mname Q h cells slots pc L (y :: x :: S) := by
  intro p e s m args below meth c T vm0 k0 locs P
  obtain ⟨hx, hby, -, -, -, -, -, -, X, -⟩ := id P
  by_cases z : x = y
  · exact back_steps (fun t ht => XT.acmpYes X.here hx rfl (pc0 := pc) rfl (hb hby hd) rfl hx1 hy1 (XT.aa_eq_t z) ho hp ht) (ky z p e s m args below meth c T vm0 k0 locs P)
  · exact back_steps (fun t ht => XT.acmpNo X.here hx rfl (hb hby hd) rfl hx1 hy1 (XT.aa_eq_f z) ht) (kn z p e s m args below meth c T vm0 k0 locs P)
/-! the heap -/
theorem safe_nil {vm : Vm} {a : Addr} (q : EL = []) : Safe Z EL vm h a := fun B => by
  obtain ⟨p, hp, -⟩ := B
  rw [q] at hp; cases hp
theorem G.new {C : String} {idx n : Nat} (hd : decode code pc = .ok (.new idx, 3)) (w1 : Jvm.Cond.classLink own idx C ∈ tbl) (w2 : Jvm.Cond.instantiable C n ∈ tbl) (w3 : Jvm.Cond.initialized C ∈ tbl) (hc : cells + 1 ≤ R.cells) (hl : slots + n ≤ R.slots)
    (k : ∀ h' a, a = h.size → n0 ≤ a → Keep h h' [] → Exa Z h' a C → (∀ {O nm d : String} {ty : FieldType}, (Jvm.Cond.lays C O nm d ∈ tbl ∨ Jvm.Cond.laysFinal C O nm d ∈ tbl) → parseFieldDescriptor d = some ty → Fld Z h' a O nm d (defaultValue ty)) → G l Z a0 EL tbl n0 code maxL ret R own mname Q h' (cells + 1) (slots + n) (pc + 3) L (.ref a :: S)) :
    G l Z a0 EL tbl n0 code maxL ret R own mname Q h cells slots pc L S := by
  intro p e s m args below meth c T vm0 k0 locs P
  obtain ⟨hx, hby, hml, hret, hlk, hnm, hEL, hw, X, eT, hS, hk, hZ, hown, N, H, O, Wm⟩ := P
  obtain ⟨T', h', X', e', E, A, D, -, st⟩ := newO X hx hZ hown (hw _ w1) (hw _ w2) (hw _ w3) eT (g := mkF m pc L S) rfl (hb hby hd) hc hl
  exact back_steps st (k h' h.size rfl (O.1 ▸ O.2.1) ((Keep.refl h []).ext E) A (fun q => D (q.imp (hw _) (hw _))) p e s m args below meth c T' vm0 k0 locs ⟨hx, hby, hml, hret, hlk, hnm, hEL, hw, X', e', hS, Nat.le_trans hk E.1, hZ, hown, N, H.trans (CHr.ext E H.1), O.ext E, Wm⟩)
theorem G.newarr {aty : ArrayType} {ty : FieldType} {n : Int32} {cap : Nat} (hty : newarray.typeOf aty = ty) (hd : decode code pc = .ok (.newarray aty, 2)) (w : Jvm.Cond.arrayClass ty ∈ tbl) (hn : ¬ n < 0) (hcap : n.toNatClampNeg ≤ cap) (hb8 : cap * 8 ≤ 536870912) (hc : cells + 1 ≤ R.cells) (hl : slots + cap ≤ R.slots)
    (k : ∀ h' a kA, a = h.size → n0 ≤ a → Keep h h' [] → Arv Z h' a kA ty n (List.replicate cap (defaultValue ty)) (defaultValue ty) → G l Z a0 EL tbl n0 code maxL ret R own mname Q h' (cells + 1) (slots + cap) (pc + 2) L (.ref a :: S)) :
    G l Z a0 EL tbl n0 code maxL ret R own mname Q h cells slots pc L (.int n :: S) := by
  subst hty
  intro p e s m args below meth c T vm0 k0 locs P
  obtain ⟨hx, hby, hml, hret, hlk, hnm, hEL, hw, X, eT, hS, hk, hZ, hown, N, H, O, Wm⟩ := P
  obtain ⟨T', h', cA, X', e', E, A, st⟩ := newP X hx hZ (hw _ w) eT (g := mkF m pc L (.int n :: S)) rfl (hb hby hd) rfl hn hcap hb8 hc hl
  exact back_steps st (k h' h.size cA rfl (O.1 ▸ O.2.1) ((Keep.refl h []).ext E) ((Arv.new A hn).pad (fun i => by simpa using pad_rep [] (defaultValue (newarray.typeOf aty)) cap i)) p e s m args below meth c T' vm0 k0 locs ⟨hx, hby, hml, hret, hlk, hnm, hEL, hw, X', e', hS, Nat.le_trans hk E.1, hZ, hown, N, H.trans (CHr.ext E H.1), O.ext E, Wm⟩)
theorem G.castore {a : Addr} {kA : ClassId} {z j x x' : Int32} {vs : List Value} {dv : Value} {i : Nat} (hd : decode code pc = .ok (.castore, 1)) (A : Arv Z h a kA .char z vs dv) (ha : n0 ≤ a) (hj : ¬ j < 0 ∧ j < z) (hi : j.toNatClampNeg = i) (hlen : i < vs.length) (hx' : nar .char x = x')
    (k : ∀ h', Keep h h' [a] → Arv Z h' a kA .char z (vs.set i (.int x')) dv → G l Z a0 EL tbl n0 code maxL ret R own mname Q h' cells slots (pc + 1) L S) :
    G l Z a0 EL tbl n0 code maxL ret R own mname Q h cells slots pc L (.int x :: .int j :: .ref a :: S) := by
  subst hx'
  intro p e s m args below meth c T vm0 k0 locs P
  obtain ⟨hx, hby, hml, hret, hlk, hnm, hEL, hw, X, eT, hS, hk, hZ, hown, N, H, O, Wm⟩ := P
  obtain ⟨cl, A1, A2, A3, A4, A5, A6⟩ := A
  obtain ⟨T', h', X', e', W, st⟩ := stC X hx hZ eT A1 (inb_of A3 hj) (g := mkF m pc L (.int x :: .int j :: .ref a :: S)) rfl rfl (hb hby hd)
  have sf : Safe Z EL vm0 h a := Safe.arr (Z := Z) hZ.alike A1 (by decide)
  exact back_steps st (k h' (Keep.of_wr W) (Arv.set A1 A2 A3 A4 A5 A6 (fits_nar_char x) W i hi hlen) p e s m args below meth c T' vm0 k0 _ ⟨hx, hby, hml, hret, hlk, hnm, hEL, hw, X', e', hS, by rw [W.size]; exact hk, hZ, hown, Fr.snoc X' N ha, H.trans (CHr.wr W sf H.1), O.wr W ha, Wm⟩)
theorem G.getF {a : Addr} {O nm d : String} {v : Value} {idx : Nat} (hd : decode code pc = .ok (.getfield idx, 3)) (w : Jvm.Cond.fieldLink own idx O nm d ∈ tbl) (F : Fld Z h a O nm d v)
    (k : G l Z a0 EL tbl n0 code maxL ret R own mname Q h cells slots (pc + 3) L (v :: S)) : G l Z a0 EL tbl n0 code maxL ret R own mname Q h cells slots pc L (.ref a :: S) := by
  intro p e s m args below meth c T vm0 k0 locs P
  obtain ⟨hx, hby, hml, hret, hlk, hnm, hEL, hw, X, eT, hS, hk, hZ, hown, N, H, O, Wm⟩ := P
  obtain ⟨T', X', e', st⟩ := Jvm.RoadKit.getF X hx hZ hown (host := "") (Or.inl (hw _ w)) Via.refl eT F (g := mkF m pc L (.ref a :: S)) rfl rfl (hb hby hd)
  exact back_steps st (k p e s m args below meth c T' vm0 k0 locs ⟨hx, hby, hml, hret, hlk, hnm, hEL, hw, X', e', hS, hk, hZ, hown, N, H, O, Wm⟩)
theorem G.putF {a : Addr} {C O nm d : String} {v old : Value} {idx kk : Nat} {ty : FieldType} (hd : decode code pc = .ok (.putfield idx, 3)) (w : Jvm.Cond.fieldLink own idx O nm d ∈ tbl) (F : Fld Z h a O nm d old) (E : Exa Z h a C)
    (wl : Jvm.Cond.lays C O nm d ∈ tbl ∨ (Jvm.Cond.laysFinal C O nm d ∈ tbl ∧ own = O ∧ mname = "<init>")) (wi : Jvm.Cond.instantiable C kk ∈ tbl) (hty : parseFieldDescriptor d = some ty) (hn : narrow ty v = v) (hf : fits ty v = true) (ha : n0 ≤ a) (hc : EL = [] ∨ (C ≠ "java/lang/String" ∧ C ≠ "[B"))
    (k : ∀ h', Wr h h' a (Jvm.RoadKit.slotOf Z O nm d) v → Keep h h' [a] → Fld Z h' a O nm d v → Exa Z h' a C → G l Z a0 EL tbl n0 code maxL ret R own mname Q h' cells slots (pc + 3) L S) :
    G l Z a0 EL tbl n0 code maxL ret R own mname Q h cells slots pc L (v :: .ref a :: S) := by
  intro p e s m args below meth c T vm0 k0 locs P
  obtain ⟨hx, hby, hml, hret, hlk, hnm, hEL, hw, X, eT, hS, hk, hZ, hown, N, H, O, Wm⟩ := P
  obtain ⟨T', h', X', e', W, st⟩ := Jvm.RoadKit.putF X hx hZ hown (host := "") (Or.inl (hw _ w)) Via.refl eT F E (wl.imp (hw _) fun q => ⟨hw _ q.1, q.2.1, hnm.trans q.2.2⟩) (hw _ wi) hty hn hf (g := mkF m pc L (v :: .ref a :: S)) rfl rfl (hb hby hd)
  have sf : Safe Z EL vm0 h a := hc.elim (fun q => safe_nil q) fun q => Safe.exa (Z := Z) hZ.alike E q.1 q.2
  exact back_steps st (k h' W (Keep.of_wr W) (F.same W) (E.wr W) p e s m args below meth c T' vm0 k0 _ ⟨hx, hby, hml, hret, hlk, hnm, hEL, hw, X', e', hS, by rw [W.size]; exact hk, hZ, hown, Fr.snoc X' N ha, H.trans (CHr.wr W sf H.1), O.wr W ha, Wm⟩)
theorem G.getS {O nm d : String} {v : Value} {idx : Nat} (hd : decode code pc = .ok (.getstatic idx, 3)) (w : Jvm.Cond.fieldLink own idx O nm d ∈ tbl) (F : Sta Z Z.heap O nm d v)
    (k : G l Z a0 EL tbl n0 code maxL ret R own mname Q h cells slots (pc + 3) L (v :: S)) : G l Z a0 EL tbl n0 code maxL ret R own mname Q h cells slots pc L S := by
  intro p e s m args below meth c T vm0 k0 locs P
  obtain ⟨hx, hby, hml, hret, hlk, hnm, hEL, hw, X, eT, hS, hk, hZ, hown, N, H, O, Wm⟩ := P
  obtain ⟨T', X', e', st⟩ := Jvm.RoadKit.getS (host := "") X hx hZ hown (hw _ w) Via.refl eT (F.ext O.2) (g := mkF m pc L S) rfl (hb hby hd)
  exact back_steps st (k p e s m args below meth c T' vm0 k0 locs ⟨hx, hby, hml, hret, hlk, hnm, hEL, hw, X', e', hS, hk, hZ, hown, N, H, O, Wm⟩)
theorem G.getSN {O nm d host : String} {v : Value} {idx : Nat} (hd : decode code pc = .ok (.getstatic idx, 3)) (w : Jvm.Cond.fieldLinkNest own idx O nm d host ∈ tbl) (F : Sta Z Z.heap O nm d v)
    (k : G l Z a0 EL tbl n0 code maxL ret R own mname Q h cells slots (pc + 3) L (v :: S)) : G l Z a0 EL tbl n0 code maxL ret R own mname Q h cells slots pc L S := by
  intro p e s m args below meth c T vm0 k0 locs P
  obtain ⟨hx, hby, hml, hret, hlk, hnm, hEL, hw, X, eT, hS, hk, hZ, hown, N, H, O, Wm⟩ := P
  obtain ⟨T', X', e', st⟩ := Jvm.RoadKit.getS2 (host := host) X hx hZ hown (Or.inr (hw _ w)) Via.refl eT (F.ext O.2) (g := mkF m pc L S) rfl (hb hby hd)
  exact back_steps st (k p e s m args below meth c T' vm0 k0 locs ⟨hx, hby, hml, hret, hlk, hnm, hEL, hw, X', e', hS, hk, hZ, hown, N, H, O, Wm⟩)
theorem G.initO {a : Addr} {idx W : Nat} (hd : decode code pc = .ok (.invokespecial idx, 3)) (w1 : Jvm.Cond.methodLink own idx Lib.objectInit ∈ tbl) (w2 : Jvm.Cond.instanceMethod Lib.objectInit ∈ tbl) (w3 : Jvm.Cond.code Lib.objectInit ⟨#[0xb1]⟩ 1 none ∈ tbl) (hsz : L.size = maxL) (hf : 1 ≤ R.frames) (hW : 2 * 0 + (S.map fun v => v.category).sum ≤ W) (hl : W + 12 ≤ R.locals)
    (k : G l Z a0 EL tbl n0 code maxL ret R own mname Q h cells slots (pc + 3) L S) : G l Z a0 EL tbl n0 code maxL ret R own mname Q h cells slots pc L (.ref a :: S) := by
  intro p e s m args below meth c T vm0 k0 locs P
  obtain ⟨hx, hby, hml, hret, hlk, hnm, hEL, hw, X, eT, hS, hk, hZ, hown, N, H, O, Wm⟩ := P
  obtain ⟨T', X', e', st⟩ := Jvm.RoadKit.initO X hx hZ hown (hw _ w1) (hw _ w2) (hw _ w3) eT (g := mkF m pc L (.ref a :: S)) rfl (hsz.trans hml.symm) rfl (hb hby hd) hf hW hl
  exact back_steps st (k p e s m args below meth c T' vm0 k0 locs ⟨hx, hby, hml, hret, hlk, hnm, hEL, hw, X', e', hS, hk, hZ, hown, N, H, O, Wm⟩)
theorem G.castY {a : Addr} {K : String} {idx : Nat} (hd : decode code pc = .ok (.checkcast idx, 3)) (w : Jvm.Cond.classLink own idx K ∈ tbl) (F : Ins Z h a K true)
    (k : G l Z a0 EL tbl n0 code maxL ret R own mname Q h cells slots (pc + 3) L (.ref a :: S)) : G l Z a0 EL tbl n0 code maxL ret R own mname Q h cells slots pc L (.ref a :: S) := by
  intro p e s m args below meth c T vm0 k0 locs P
  obtain ⟨hx, hby, hml, hret, hlk, hnm, hEL, hw, X, eT, hS, hk, hZ, hown, N, H, O, Wm⟩ := P
  obtain ⟨T', X', e', st⟩ := Jvm.RoadKit.castY X hx hZ hown (hw _ w) eT F (g := mkF m pc L (.ref a :: S)) rfl rfl (hb hby hd)
  exact back_steps st (k p e s m args below meth c T' vm0 k0 locs ⟨hx, hby, hml, hret, hlk, hnm, hEL, hw, X', e', hS, hk, hZ, hown, N, H, O, Wm⟩)
theorem G.instY {a : Addr} {K : String} {idx : Nat} (hd : decode code pc = .ok (.instanceof idx, 3)) (w : Jvm.Cond.classLink own idx K ∈ tbl) (F : Ins Z h a K true)
    (k : G l Z a0 EL tbl n0 code maxL ret R own mname Q h cells slots (pc + 3) L (.int 1 :: S)) : G l Z a0 EL tbl n0 code maxL ret R own mname Q h cells slots pc L (.ref a :: S) := by
  intro p e s m args below meth c T vm0 k0 locs P
  obtain ⟨hx, hby, hml, hret, hlk, hnm, hEL, hw, X, eT, hS, hk, hZ, hown, N, H, O, Wm⟩ := P
  obtain ⟨T', X', e', st⟩ := Jvm.RoadKit.instY X hx hZ hown (hw _ w) eT F (g := mkF m pc L (.ref a :: S)) rfl rfl (hb hby hd)
  exact back_steps st (k p e s m args below meth c T' vm0 k0 locs ⟨hx, hby, hml, hret, hlk, hnm, hEL, hw, X', e', hS, hk, hZ, hown, N, H, O, Wm⟩)
theorem G.ldcO {idx n : Nat} {text : String} (hne : EL ≠ []) (hd : decode code pc = .ok (.ldc idx, 2)) (w : Jvm.Cond.stringLink own idx text ∈ tbl) (wS : ∀ d ∈ Bundle.stringAtoms, d ∈ tbl) (hn : 4 * text.toList.length ≤ n) (hbig : n ≤ 536870912) (hc : cells + 2 ≤ R.cells) (hl : slots + (n + 4) ≤ R.slots)
    (k : ∀ h' a, Keep h h' [] → G l Z a0 EL tbl n0 code maxL ret R own mname Q h' (cells + 2) (slots + (n + 4)) (pc + 2) L (.ref a :: S)) : G l Z a0 EL tbl n0 code maxL ret R own mname Q h cells slots pc L S := by
  intro p e s m args below meth c T vm0 k0 locs P
  obtain ⟨hx, hby, hml, hret, hlk, hnm, hEL, hw, X, eT, hS, hk, hZ, hown, N, H, O, Wm⟩ := P
  obtain ⟨a, T', h', k1, X', e', E, S', hk', Z', o', C', -, st⟩ := ldcOH X hx hZ hown (hw _ w) (fun d hd => hw d (wS d hd)) eT hS hk hEL H.1 (g := mkF m pc L S) rfl (hb hby hd) hn hbig hc hl
  exact back_steps st (k h' a ((Keep.refl h []).ext E) p e s m args below meth c T' T'.vm k1 locs ⟨hx, hby, hml, hret, hlk, hnm, hEL, hw, X', e', S', hk', Z', o', N, H.trans C', O.ext E, fun q => absurd q hne⟩)
theorem G.ldcC {idx n : Nat} {text : String} {vs : List Value} {z : Int32} (hne : EL ≠ []) (hd : decode code pc = .ok (.ldc idx, 2)) (w : Jvm.Cond.stringLink own idx text ∈ tbl) (wS : ∀ d ∈ Bundle.stringAtoms, d ∈ tbl) (hmem : (own, idx) ∈ EL) (ht : (∀ c ∈ text.toList, c.toNat < 256) ∧ text.toList.map (fun c => Value.int (Jvm.Lit.byteI c.toNat.toUInt16)) = vs) (hz : ¬ z < 0) (hzl : z.toNatClampNeg = vs.length)
    (hn : 4 * text.toList.length ≤ n) (hbig : n ≤ 536870912) (hc : cells + 2 ≤ R.cells) (hl : slots + (n + 4) ≤ R.slots)
    (k : ∀ h' a b kb, Keep h h' [] → Exa Z h' a "java/lang/String" → Fld Z h' a "java/lang/String" "coder" "B" (.int 0) → Fld Z h' a "java/lang/String" "value" "[B" (.ref b) → Arv Z h' b kb .byte z vs (.int 0) → G l Z a0 EL tbl n0 code maxL ret R own mname Q h' (cells + 2) (slots + (n + 4)) (pc + 2) L (.ref a :: S)) : G l Z a0 EL tbl n0 code maxL ret R own mname Q h cells slots pc L S := by
  intro p e s m args below meth c T vm0 k0 locs P
  obtain ⟨hx, hby, hml, hret, hlk, hnm, hEL, hw, X, eT, hS, hk, hZ, hown, N, H, O, Wm⟩ := P
  obtain ⟨a, T', h', k1, b, kb, X', e', E, S', hk', Z', o', Ea, Ca, Va, Ab, -, -, C', -, -, st⟩ := ldcCH X hx hZ hown (hw _ w) (fun d hd => hw d (wS d hd)) eT hS hk hEL hmem H.1 ht hz hzl (g := mkF m pc L S) rfl (hb hby hd) hn hbig hc hl
  exact back_steps st (k h' a b kb ((Keep.refl h []).ext E) Ea Ca Va Ab p e s m args below meth c T' T'.vm k1 locs ⟨hx, hby, hml, hret, hlk, hnm, hEL, hw, X', e', S', hk', Z', o', N, H.trans C', O.ext E, fun q => absurd q hne⟩)
theorem G.castN {idx : Nat} (hd : decode code pc = .ok (.checkcast idx, 3)) (k : G l Z a0 EL tbl n0 code maxL ret R own mname Q h cells slots (pc + 3) L (.null :: S)) : G l Z a0 EL tbl n0 code maxL ret R own mname Q h cells slots pc L (.null :: S) := by
  intro p e s m args below meth c T vm0 k0 locs P
  obtain ⟨hx, hby, -, -, -, -, -, -, X, -⟩ := id P
  exact back_steps (X.checkcastNull hx (g := mkF m pc L (.null :: S)) rfl rfl (hb hby hd)) (k p e s m args below meth c T vm0 k0 locs P)
theorem G.instNull {idx : Nat} (hd : decode code pc = .ok (.instanceof idx, 3)) (k : G l Z a0 EL tbl n0 code maxL ret R own mname Q h cells slots (pc + 3) L (.int 0 :: S)) : G l Z a0 EL tbl n0 code maxL ret R own mname Q h cells slots pc L (.null :: S) := by
  intro p e s m args below meth c T vm0 k0 locs P
  obtain ⟨hx, hby, -, -, -, -, -, -, X, -⟩ := id P
  exact back_steps (X.instanceofNull hx (g := mkF m pc L (.null :: S)) rfl rfl (hb hby hd)) (k p e s m args below meth c T vm0 k0 locs P)
theorem G.instNo {a : Addr} {C K : String} {idx : Nat} (hd : decode code pc = .ok (.instanceof idx, 3)) (w : Jvm.Cond.classLink own idx K ∈ tbl) (E : Exa Z h a C) (F : ∃ c t, Z.vm.findClass C = some c ∧ Z.vm.findClass K = some t ∧ Z.vm.assignable c t = false)
    (k : G l Z a0 EL tbl n0 code maxL ret R own mname Q h cells slots (pc + 3) L (.int 0 :: S)) : G l Z a0 EL tbl n0 code maxL ret R own mname Q h cells slots pc L (.ref a :: S) := by
  intro p e s m args below meth c T vm0 k0 locs P
  obtain ⟨hx, hby, hml, hret, hlk, hnm, hEL, hw, X, eT, hS, hk, hZ, hown, N, H, O, Wm⟩ := P
  obtain ⟨T', X', e', st⟩ := Jvm.RoadKit.instNo X hx hZ hown (hw _ w) eT E F (g := mkF m pc L (.ref a :: S)) rfl rfl (hb hby hd)
  exact back_steps st (k p e s m args below meth c T' vm0 k0 locs ⟨hx, hby, hml, hret, hlk, hnm, hEL, hw, X', e', hS, hk, hZ, hown, N, H, O, Wm⟩)
theorem past {C O n d O' n' d' : String} {t t' : FieldType} {a : Addr} {v v' : Value} (hw : ∀ d ∈ tbl, d.before a0 Z = true) (L1 : Jvm.Cond.lays C O n d ∈ tbl ∨ Jvm.Cond.laysFinal C O n d ∈ tbl) (L2 : Jvm.Cond.lays C O' n' d' ∈ tbl ∨ Jvm.Cond.laysFinal C O' n' d' ∈ tbl) (hn : n ≠ n') (ht : parseFieldDescriptor d = some t) (ht' : parseFieldDescriptor d' = some t')
    (W : Wr h h' a (Jvm.RoadKit.slotOf Z O' n' d') v') (F : Fld Z h a O n d v) : Fld Z h' a O n d v := F.other W (Or.inr (Jvm.RoadKit.slot_ne (a0 := a0) (L1.imp (hw _) (hw _)) (L2.imp (hw _) (hw _)) hn ht ht'))
/-- an object of C (whose superclass is O, which has none) is none of K, K an ordinary class -/
theorem not_inst {C O K : String} {n : Nat} (w1 : (Jvm.Cond.superclass C O).before a0 Z = true) (w2 : (Jvm.Cond.noSuperclass O).before a0 Z = true) (w3 : (Jvm.Cond.instantiable K n).before a0 Z = true) (h1 : C ≠ K) (h2 : O ≠ K) : ∃ c t, Z.vm.findClass C = some c ∧ Z.vm.findClass K = some t ∧ Z.vm.assignable c t = false := by
  obtain ⟨t, k', g0, g2, g5, g7x, -⟩ := Cond.instantiable_spec w3
  have g7 := (Bool.or_eq_false_iff.mp g7x).1
  obtain ⟨o, ko, r1, r2, r3, -, -⟩ := Cond.noSuperclass_spec w2
  obtain ⟨c, h0⟩ := found_sup w1
  obtain ⟨p, k, kp, q1, q2, q3, q4, q5, -, q7⟩ := Cond.superclass_spec h0 w1
  cases r1.symm.trans q1
  have e1 := ids_ne h0 g0 h1
  have e2 := ids_ne r1 g0 h2
  have ns : ∀ fuel, Z.vm.isSubclassAux fuel c t = false := fun fuel => by
    cases fuel with
    | zero => rfl
    | succ f => cases f with
      | zero => simp [Vm.isSubclassAux, e1, q2, q4]
      | succ f => simp [Vm.isSubclassAux, e1, q2, q4, e2, r2, r3]
  refine ⟨c, t, h0, g0, ?_⟩
  show Z.vm.assignableAux (255 + 1) c t = false
  simp [Vm.assignableAux, e1, q2, g2, q5, g5, g7, Vm.isSubclass, ns]
theorem G.aloadVn {k : Fin 4} {v : Value} (hd : decode code pc = .ok (.aload_n k, 1)) (hl : L[k.val]? = some (.val v)) (hv : v.isRef = true) (kk : G l Z a0 EL tbl n0 code maxL ret R own mname Q h cells slots (pc + 1) L (v :: S)) : G l Z a0 EL tbl n0 code maxL ret R own mname Q h cells slots pc L S := by
  intro p e s m args below meth c T vm0 k0 locs P
  obtain ⟨hx, hby, -, -, -, -, -, -, X, -⟩ := id P
  exact back_steps (fun t ht => XS.aloadN X.here hx rfl (hb hby hd) hl hv ht) (kk p e s m args below meth c T vm0 k0 locs P)
theorem G.aloadV {k : Nat} {v : Value} (hd : decode code pc = .ok (.aload k, 2)) (hl : L[k]? = some (.val v)) (hv : v.isRef = true) (kk : G l Z a0 EL tbl n0 code maxL ret R own mname Q h cells slots (pc + 2) L (v :: S)) : G l Z a0 EL tbl n0 code maxL ret R own mname Q h cells slots pc L S := by
  intro p e s m args below meth c T vm0 k0 locs P
  obtain ⟨hx, hby, -, -, -, -, -, -, X, -⟩ := id P
  exact back_steps (fun t ht => XS.aload X.here hx rfl (hb hby hd) hl hv ht) (kk p e s m args below meth c T vm0 k0 locs P)
theorem G.astoreVn {k : Fin 4} {v : Value} {L' : Array Slot} (hd : decode code pc = .ok (.astore_n k, 1)) (hv : v.isRef = true) (hl : storeLocals L k.val v = some L') (kk : G l Z a0 EL tbl n0 code maxL ret R own mname Q h cells slots (pc + 1) L' S) : G l Z a0 EL tbl n0 code maxL ret R own mname Q h cells slots pc L (v :: S) := by
  intro p e s m args below meth c T vm0 k0 locs P
  obtain ⟨hx, hby, -, -, -, -, -, -, X, -⟩ := id P
  exact back_steps (fun t ht => XS.astoreN X.here hx rfl (hb hby hd) rfl hv hl ht) (kk p e s m args below meth c T vm0 k0 locs P)
theorem G.astoreV {k : Nat} {v : Value} {L' : Array Slot} (hd : decode code pc = .ok (.astore k, 2)) (hv : v.isRef = true) (hl : storeLocals L k v = some L') (kk : G l Z a0 EL tbl n0 code maxL ret R own mname Q h cells slots (pc + 2) L' S) : G l Z a0 EL tbl n0 code maxL ret R own mname Q h cells slots pc L (v :: S) := by
  intro p e s m args below meth c T vm0 k0 locs P
  obtain ⟨hx, hby, -, -, -, -, -, -, X, -⟩ := id P
  exact back_steps (fun t ht => XS.astore X.here hx rfl (hb hby hd) rfl hv hl ht) (kk p e s m args below meth c T vm0 k0 locs P)
theorem kwk {ws : List Addr} (K : Keep h h' []) : Keep h h' ws := ⟨K.1, fun x c q _ => K.2.1 x c q nin0, K.2.2⟩
/-! ## 3. Calls -/
/-- a contract: the method y, at the arguments as and the heap h, ends with Q -/
def Ct (l : Launch) (Z : State) (a0 : Array Value) (EL : List (String × Nat)) (tbl ws : List Jvm.Cond) (n0 : Nat) (y : MethodName) (bytes : ByteArray) (maxL : Nat) (ret : Option FieldType) (rm : Room) (as : Array Value) (h : Heap) (Q : Option Value → Heap → Prop) : Prop :=
  EW Z a0 EL → (∀ d ∈ tbl, d.before a0 Z = true) → Old Z n0 h → MetFree l y (head1 (Jvm.Cond.code y bytes maxL ret :: ws) rm) (fun a U => a = as ∧ Z.Warmed39 U.vm ∧ U.heap = h ∧ CHv Z EL U.vm h) (fun _ _ _ _ _ => True) (fun _ U o U' => End Z EL n0 rm Q U o U')
theorem Ct.of_bodyP {ws : List Jvm.Cond} {y : MethodName} {bytes : ByteArray} {rm : Room} {as : Array Value} {L0 : Array Slot} (hpn : plainFor y = true) (hef : ∀ m, entryFrame m as maxL = mkF m 0 L0 []) (hG : EW Z a0 EL → (∀ d ∈ tbl, d.before a0 Z = true) → Old Z n0 h → G l Z a0 EL tbl n0 bytes maxL ret rm y.cls y.name Q h 0 0 0 L0 []) :
    Ct l Z a0 EL tbl ws n0 y bytes maxL ret rm as h Q := by
  intro hEL hw hO
  refine MetFree.of_bodySF hpn hisR ?_
  intro p e s m args below meth c s₁ Bd hml0 hP hK
  obtain ⟨rfl, hZ, hh, hCH⟩ := hP
  have X0 : Stand p l e rm s m args below meth c s₁ [] 0 0 := Stand.of_body Bd
  have e0 : s₁.heap = h := by rw [← hh, Bd.state]; rfl
  rw [hef m]
  subst hh
  exact hG hEL hw hO p e s m args below meth c s₁ s.vm 0 [] ⟨Bd.exec, Bd.bytes, hml0, Bd.returns, Bd.notSynchronized, (name_of_methodNamed Bd.named Bd.method).1, hEL, hw, X0, e0, (State.WarmedH.refl s).since 0, Nat.zero_le _, hZ, findClass_of_methodNamed Bd.named, Fr.nil n0, CHr.refl hCH, hO, fun _ => State.WarmedH.refl s⟩
theorem Ct.of_body {ws : List Jvm.Cond} {y : MethodName} {bytes : ByteArray} {rm : Room} {as : Array Value} {L0 : Array Slot} (hpn : plainName y.cls = true) (hef : ∀ m, entryFrame m as maxL = mkF m 0 L0 []) (hG : EW Z a0 EL → (∀ d ∈ tbl, d.before a0 Z = true) → Old Z n0 h → G l Z a0 EL tbl n0 bytes maxL ret rm y.cls y.name Q h 0 0 0 L0 []) :
    Ct l Z a0 EL tbl ws n0 y bytes maxL ret rm as h Q :=
  Ct.of_bodyP (plainFor_of_name hpn) hef hG
/-- who pays a call -/
def BK (l : Launch) (Z : State) (a0 : Array Value) (EL : List (String × Nat)) (tbl : List Jvm.Cond) (n0 : Nat) (R : Room) (y : MethodName) (len W : Nat) (as : Array Value) (h : Heap) (kc ks : Nat) (Q : Option Value → Heap → Prop) : Prop :=
  ∀ (p : Program) (e : Env) (below : List Frame) (s : State) (args : Array Value) (vm0 : Vm), EW Z a0 EL → (∀ d ∈ tbl, d.before a0 Z = true) → Z.Warmed39 vm0 → CHv Z EL vm0 h → Old Z n0 h →
    BackS l R p e below (s.setVm vm0) args y len W (fun A a => a = as ∧ A.U.heap = h ∧ A.cells + kc ≤ R.cells ∧ A.slots + ks ≤ R.slots)
      (fun A _ v B => ∃ L, (Fr n0 L ∧ Old Z n0 B.U.heap ∧ Q v B.U.heap) ∧ B.locs = A.locs ++ L ∧ B.cells = A.cells + kc ∧ B.slots = A.slots + ks ∧ CHr Z EL vm0 h B.U.vm B.U.heap ∧ (EL = [] → (s.setVm vm0).WarmedH B.U.vm))
theorem Ct.pays {y : MethodName} {bytes : ByteArray} {rm : Room} {as : Array Value} {len W : Nat} (hC : Ct l Z a0 EL tbl [] n0 y bytes maxL ret rm as h Q) (w1 : Jvm.Cond.code y bytes maxL ret ∈ tbl) (w2 : Jvm.Cond.initialized y.cls ∈ tbl) (hf : rm.frames + 1 ≤ R.frames) (hl : W + (maxL + 11) + rm.locals ≤ R.locals) :
    BK l Z a0 EL tbl n0 R y len W as h rm.cells rm.slots Q := fun p e below s args vm0 hEL hw hZ H O =>
  have hU : ∀ (m : MethodId) (meth : Method) (c : Code) (A : Pt), Stand p l e R (s.setVm vm0) m args below meth c A.U A.locs A.cells A.slots → Z.Warmed39 A.U.vm := fun m meth c A Y => wtrans (s := s.setVm vm0) hZ Y.warmed
  BackS.of_freeW (bytes := bytes) (maxL := maxL) (ret := ret) (E := fun _ U o t L k n => k = rm.cells ∧ n = rm.slots ∧ (∃ v, o = .returned v ∧ (Fr n0 L ∧ Old Z n0 t.heap ∧ Q v t.heap)) ∧ CHr Z EL U.vm U.heap t.vm t.heap ∧ (EL = [] → U.WarmedH t.vm)) (hC hEL hw O) hf hl
    (fun m meth c A a Y hp => ⟨by show (Jvm.Cond.and _ .tt).before a A.U = true; rw [Cond.before_and, mv (hU m meth c A Y) (hw _ w1)]; rfl, mv (hU m meth c A Y) (hw _ w1), mv (hU m meth c A Y) (hw _ w2), hp.2.2.1, hp.2.2.2⟩)
    (fun m meth c A a g mk Y hp => ⟨hp.1, hU m meth c A Y, hp.2.1, (CHv.at Y hZ hEL H).1⟩) (fun _ _ _ _ _ _ _ _ _ => trivial)
    (fun _ _ _ _ ⟨v, L, h1, h2, h3, h4, h5⟩ => ⟨L, _, _, h4, rfl, rfl, ⟨v, h1, h2⟩, h3, h5⟩)
    (fun m meth c A a g mk v t L k n Y hp _ _ ⟨e1, e2, ⟨v', e3, e4⟩, e5, e6⟩ => by
      cases e3; subst e1 e2
      refine ⟨L, e4, rfl, rfl, rfl, (CHv.at Y hZ hEL H).trans ?_, fun q => State.WarmedH.trans (t := A.U) Y.warmed (e6 q)⟩
      rw [← hp.2.1]; exact e5)
/-- a law of the library's that interns nothing -/
theorem BK.of_back {y : MethodName} {len W kc ks : Nat} {as : Array Value} {ws : List Addr} (hws : ∀ x ∈ ws, n0 ≤ x) (hsf : ∀ vm, Z.Warmed39 vm → ∀ x ∈ ws, Safe Z EL vm h x)
    (hB : ∀ (p : Program) (e : Env) (below : List Frame) (s : State) (args : Array Value) (vm0 : Vm), (∀ d ∈ tbl, d.before a0 Z = true) → Z.Warmed39 vm0 → Old Z n0 h → Back l R p e below (s.setVm vm0) args y len W (fun A a => a = as ∧ A.U.heap = h ∧ A.cells + kc ≤ R.cells ∧ A.slots + ks ≤ R.slots)
      (fun A _ v B => ∃ L, (Fr n0 L ∧ Keep h B.U.heap ws ∧ Q v B.U.heap) ∧ B.locs = A.locs ++ L ∧ B.cells = A.cells + kc ∧ B.slots = A.slots + ks)) :
    BK l Z a0 EL tbl n0 R y len W as h kc ks Q := by
  intro p e below s args vm0 hEL hw hZ H O m meth c A g ig mk a X hg hsize hdg hW hn hp
  obtain ⟨v, B, X', ⟨L, ⟨q1, q2, q3⟩, q4, q5, q6⟩, hst⟩ := hB p e below s args vm0 hw hZ O m meth c A g ig mk a X hg hsize hdg hW hn hp
  have C1 := CHr.keep q2 (hsf vm0 hZ) H
  exact ⟨v, B, X'.retabled X'.warmed.wide, X'.warmed.since _, by rw [hp.2.1]; exact q2.1, ⟨L, ⟨q1, O.keep q2 hws, q3⟩, q4, q5, q6, C1.trans (CHv.at X' hZ hEL C1.1), fun _ => X'.warmed⟩, hst⟩
/-- a contract that interns nothing (EL empty), paid at any EL -/
theorem Ct.warm {y : MethodName} {bytes : ByteArray} {rm : Room} {as : Array Value} {len W : Nat} {ws : List Addr} (hC : Ct l Z a0 [] tbl [] n0 y bytes maxL ret rm as h Q) (w1 : Jvm.Cond.code y bytes maxL ret ∈ tbl) (w2 : Jvm.Cond.initialized y.cls ∈ tbl) (hf : rm.frames + 1 ≤ R.frames) (hl : W + (maxL + 11) + rm.locals ≤ R.locals)
    (hK : ∀ v h', Q v h' → Keep h h' ws) (hws : ∀ x ∈ ws, n0 ≤ x) (hsf : ∀ vm, Z.Warmed39 vm → ∀ x ∈ ws, Safe Z EL vm h x) : BK l Z a0 EL tbl n0 R y len W as h rm.cells rm.slots Q := by
  refine BK.of_back hws hsf fun p e below s args vm0 hw hZ O => ?_
  have hM : MetFree l y (head1 [Jvm.Cond.code y bytes maxL ret] rm) (fun a U => a = as ∧ Z.Warmed39 U.vm ∧ U.heap = h) (fun _ _ _ _ _ => True) (fun _ U o U' => ∃ v L, o = .returned v ∧ (Fr n0 L ∧ Keep h U'.heap ws ∧ Q v U'.heap) ∧ FrameEnd U o U' L rm.cells rm.slots) := by
    intro p e h1 h2 h3 s m args below hf hap hP hK'
    obtain ⟨n, o, q1, q2, q3, v, L, q4, ⟨q5, q6, q7⟩, q8, q9, q10⟩ := hC EW.nil hw O p e h1 h2 h3 s m args below hf hap ⟨hP.1, hP.2.1, hP.2.2, fun p hp => nomatch hp⟩ hK'
    exact ⟨n, o, q1, q2, q3, v, L, q4, ⟨q5, hK _ _ q7, q7⟩, q9.1, q10 rfl, q9.2.2.2⟩
  exact backOf (s := s.setVm vm0) (Q := fun v hh L => Fr n0 L ∧ Keep h hh ws ∧ Q v hh) hM hZ (hw _ w1) (hw _ w2) hf hl
section Calls
variable {y z : MethodName} {idx W kc ks : Nat} {argsL rest : List Value} {Qc : Option Value → Heap → Prop}
theorem G.static {bytes : ByteArray} {mL : Nat} {rt : Option FieldType} (hd : decode code pc = .ok (.invokestatic idx, 3)) (w1 : Jvm.Cond.methodLink own idx y ∈ tbl) (w2 : Jvm.Cond.static y ∈ tbl) (w3 : Jvm.Cond.initialized y.cls ∈ tbl) (w4 : Jvm.Cond.code y bytes mL rt ∈ tbl) (hy : y.cls ≠ "java/lang/invoke/MethodHandle" ∧ y.cls ≠ "java/lang/invoke/VarHandle")
    (hB : BK l Z a0 EL tbl n0 R y 3 W argsL.toArray h kc ks Qc) (hlen : ∀ sig, parseMethodDescriptor y.desc = some sig → argsL.length = sig.parameters.length) (hs : S = argsL.reverse ++ rest) (hW : 2 * 0 + (rest.map fun v => v.category).sum ≤ W) (hsz : L.size = maxL) (hc : cells + kc ≤ R.cells) (hl : slots + ks ≤ R.slots)
    (k : ∀ v h', Qc v h' → G l Z a0 EL tbl n0 code maxL ret R own mname Q h' (cells + kc) (slots + ks) (pc + 3) L (v.toList ++ rest)) : G l Z a0 EL tbl n0 code maxL ret R own mname Q h cells slots pc L S := by
  intro p e s m args below meth c T vm0 k0 locs P
  obtain ⟨hx, hby, hml, hret, hlk, hnm, hEL, hw, X, eT, hS, hk, hZ, hown, N, H, O, Wm⟩ := P
  obtain ⟨v, vm₁, ⟨T', L', k', n'⟩, hW1, X', hS', hgr, ⟨Lc, ⟨q1, q2, q3⟩, e1, e2, e3, C1, W1⟩, st⟩ := callSS X hx hown (mvT hZ (hw _ w1)) (mvT hZ (hw _ w2)) (mvT hZ (hw _ w3)) (mvT hZ (hw _ w4)) hy (hB p e below s args vm0 hEL hw hZ H.1 O) (g := mkF m pc L S) rfl (hsz.trans hml.symm) hlen hs hW (hb hby hd) (fun _ _ => ⟨rfl, eT, hc, hl⟩)
  dsimp only [Pt.U, Pt.locs, Pt.cells, Pt.slots] at X' hS' hgr q2 q3 e1 e2 e3 C1 W1 st
  subst e1 e2 e3
  obtain ⟨X2, S2, Z2, o2⟩ := rebS hS hk X' hS' (by rw [← eT]; exact hgr) hZ hown
  exact back_steps (fun t ht => st.trans ht) (k v T'.heap q3 p e s m args below meth c T' T'.vm T'.heap.size _ ⟨hx, hby, hml, hret, hlk, hnm, hEL, hw, X2, rfl, S2, Nat.le_refl _, Z2, o2, N.app q1, H.trans C1, q2, fun q => State.WarmedH.trans (t := s.setVm vm0) (Wm q) (W1 q)⟩)
theorem G.special {a : Addr} {bytes : ByteArray} {mL : Nat} (hy1 : y.name = "<init>") (hd : decode code pc = .ok (.invokespecial idx, 3)) (w1 : Jvm.Cond.methodLink own idx y ∈ tbl) (w2 : Jvm.Cond.instanceMethod y ∈ tbl) (w4 : Jvm.Cond.code y bytes mL none ∈ tbl) (hy : y.cls ≠ "java/lang/invoke/MethodHandle" ∧ y.cls ≠ "java/lang/invoke/VarHandle")
    (hB : BK l Z a0 EL tbl n0 R y 3 W (.ref a :: argsL).toArray h kc ks Qc) (hlen : ∀ sig, parseMethodDescriptor y.desc = some sig → argsL.length = sig.parameters.length) (hs : S = argsL.reverse ++ .ref a :: rest) (hW : 2 * 0 + (rest.map fun v => v.category).sum ≤ W) (hsz : L.size = maxL) (hc : cells + kc ≤ R.cells) (hl : slots + ks ≤ R.slots)
    (k : ∀ v h', Qc v h' → G l Z a0 EL tbl n0 code maxL ret R own mname Q h' (cells + kc) (slots + ks) (pc + 3) L (v.toList ++ rest)) : G l Z a0 EL tbl n0 code maxL ret R own mname Q h cells slots pc L S := by
  intro p e s m args below meth c T vm0 k0 locs P
  obtain ⟨hx, hby, hml, hret, hlk, hnm, hEL, hw, X, eT, hS, hk, hZ, hown, N, H, O, Wm⟩ := P
  obtain ⟨v, vm₁, ⟨T', L', k', n'⟩, hW1, X', hS', hgr, ⟨Lc, ⟨q1, q2, q3⟩, e1, e2, e3, C1, W1⟩, st⟩ := X.specialBackS hx hy1 hown (mvT hZ (hw _ w1)) (mvT hZ (hw _ w2)) (mvT hZ (hw _ w4)) hy (hB p e below s args vm0 hEL hw hZ H.1 O) (g := mkF m pc L S) rfl (hsz.trans hml.symm) (Steps.refl _) hlen hs hW (hb hby hd) (fun _ _ => ⟨rfl, eT, hc, hl⟩)
  dsimp only [Pt.U, Pt.locs, Pt.cells, Pt.slots] at X' hS' hgr q2 q3 e1 e2 e3 C1 W1 st
  subst e1 e2 e3
  obtain ⟨X2, S2, Z2, o2⟩ := rebS hS hk X' hS' (by rw [← eT]; exact hgr) hZ hown
  exact back_steps (fun t ht => st.trans ht) (k v T'.heap q3 p e s m args below meth c T' T'.vm T'.heap.size _ ⟨hx, hby, hml, hret, hlk, hnm, hEL, hw, X2, rfl, S2, Nat.le_refl _, Z2, o2, N.app q1, H.trans C1, q2, fun q => State.WarmedH.trans (t := s.setVm vm0) (Wm q) (W1 q)⟩)
theorem G.virtual {a : Addr} {C : String} (hd : decode code pc = .ok (.invokevirtual idx, 3)) (w1 : Jvm.Cond.methodLink own idx y ∈ tbl) (w2 : Jvm.Cond.declares y ∈ tbl) (w3 : Jvm.Cond.selects C y y ∈ tbl) (w4 : Jvm.Cond.instanceMethod y ∈ tbl) (hy : y.cls ≠ "java/lang/invoke/MethodHandle" ∧ y.cls ≠ "java/lang/invoke/VarHandle") (E : Exa Z h a C)
    (hB : BK l Z a0 EL tbl n0 R y 3 W (.ref a :: argsL).toArray h kc ks Qc) (hlen : ∀ sig, parseMethodDescriptor y.desc = some sig → argsL.length = sig.parameters.length) (hs : S = argsL.reverse ++ .ref a :: rest) (hW : 2 * 0 + (rest.map fun v => v.category).sum ≤ W) (hsz : L.size = maxL) (hc : cells + kc ≤ R.cells) (hl : slots + ks ≤ R.slots)
    (k : ∀ v h', Qc v h' → G l Z a0 EL tbl n0 code maxL ret R own mname Q h' (cells + kc) (slots + ks) (pc + 3) L (v.toList ++ rest)) : G l Z a0 EL tbl n0 code maxL ret R own mname Q h cells slots pc L S := by
  intro p e s m args below meth c T vm0 k0 locs P
  obtain ⟨hx, hby, hml, hret, hlk, hnm, hEL, hw, X, eT, hS, hk, hZ, hown, N, H, O, Wm⟩ := P
  obtain ⟨cB, kB, f1, f2, f3⟩ := isOf (s := s.setVm vm0) hZ eT E
  obtain ⟨v, vm₁, ⟨T', L', k', n'⟩, hW1, X', hS', hgr, ⟨Lc, ⟨q1, q2, q3⟩, e1, e2, e3, C1, W1⟩, st⟩ := X.virtualBackS hx hown (mvT hZ (hw _ w1)) (mvT hZ (hw _ w2)) (notFace_of_selects (args := #[]) (mvT hZ (hw _ w3))) (mvT hZ (hw _ w3)) (mvT hZ (hw _ w4)) hy (hB p e below s args vm0 hEL hw hZ H.1 O) f1 f3 (g := mkF m pc L S) rfl (hsz.trans hml.symm) (Steps.refl _) hlen hs hW (hb hby hd) (fun _ _ => ⟨rfl, eT, hc, hl⟩)
  dsimp only [Pt.U, Pt.locs, Pt.cells, Pt.slots] at X' hS' hgr q2 q3 e1 e2 e3 C1 W1 st
  subst e1 e2 e3
  obtain ⟨X2, S2, Z2, o2⟩ := rebS hS hk X' hS' (by rw [← eT]; exact hgr) hZ hown
  exact back_steps (fun t ht => st.trans ht) (k v T'.heap q3 p e s m args below meth c T' T'.vm T'.heap.size _ ⟨hx, hby, hml, hret, hlk, hnm, hEL, hw, X2, rfl, S2, Nat.le_refl _, Z2, o2, N.app q1, H.trans C1, q2, fun q => State.WarmedH.trans (t := s.setVm vm0) (Wm q) (W1 q)⟩)
end Calls
/-! ## 4. The end -/
theorem rew_mono {s t : State} {o : Outcome} {Ls : List Loc} {k n k' n' : Nat} (q : ReturnedEndW s o t Ls k n) (hk : k ≤ k') (hn : n ≤ n') : ReturnedEndW s o t Ls k' n' := ⟨q.1, q.2.1, q.2.2.1, q.2.2.2.mono hk hn⟩
theorem G.leave {v : Option Value} (hv : ret = none → v = none) (hq : Q v h) (hc : cells ≤ R.cells) (hl : slots ≤ R.slots)
    (st : ∀ (p : Program) (e : Env) (s : State) (m : MethodId) (args : Array Value) (below : List Frame) (meth : Method) (c : Code) (T : State) (locs : List Loc) (fs : List Frame), p.tables.exec = Jvm.exec → c.code = code → meth.sig.returnType = ret → Stand p l e R s m args below meth c T locs cells slots →
      (∀ (f : JFrame) (acts : List Action), f.method = m → f.locked = none → f.entered = [] → (doReturn e (T.setTop f) acts v).1 = T.setFrames fs) → Steps p.tables e below (T.setTop (mkF m pc L S)) (T.setFrames fs)) :
    G l Z a0 EL tbl n0 code maxL ret R own mname Q h cells slots pc L S := by
  intro p e s m args below meth c T vm0 k0 locs P
  obtain ⟨hx, hby, hml, hret, hlk, hnm, hEL, hw, X, eT, hS, hk, hZ, hown, N, H, O, Wm⟩ := P
  subst eT
  obtain ⟨fs, hr, hrun, hended, hE⟩ := X.leaveW hS hk (v := v) (fun q => hv (hret.symm.trans q)) hlk
  exact ⟨_, _, st p e (s.setVm vm0) m args below meth c T locs fs hx hby hret X hr, hrun, hended, v, locs, rfl, ⟨N, O, hq⟩, H.trans (CHv.at X hZ hEL H.1 : CHr Z EL vm0 T.heap T.vm T.heap), rew_mono hE hc hl, fun q => State.WarmedH.trans (t := s.setVm vm0) (Wm q) X.warmed⟩
theorem G.retV (hd : decode code pc = .ok (.return_, 1)) (hret : ret = none) (hq : Q none h) (hc : cells ≤ R.cells) (hl : slots ≤ R.slots) : G l Z a0 EL tbl n0 code maxL ret R own mname Q h cells slots pc L [] :=
  G.leave (v := none) (fun _ => rfl) hq hc hl fun p e s m args below meth c T locs fs hx hby hr X hl => X.returnOut hx (hr.trans hret) (hb hby hd) hl
theorem G.retI {z : Int32} (hd : decode code pc = .ok (.ireturn, 1)) (hret : ret = some .int) (hq : Q (some (.int z)) h) (hc : cells ≤ R.cells) (hl : slots ≤ R.slots) : G l Z a0 EL tbl n0 code maxL ret R own mname Q h cells slots pc L (.int z :: S) :=
  G.leave (v := some (.int z)) (fun q => nomatch hret.symm.trans q) hq hc hl fun p e s m args below meth c T locs fs hx hby hr X hl => retOut X hx (hr.trans hret) rfl (Or.inl ⟨rfl, Or.inl rfl, _, rfl⟩) (hb hby hd) hl
theorem G.retJ {z : Int64} (hd : decode code pc = .ok (.lreturn, 1)) (hret : ret = some .long) (hq : Q (some (.long z)) h) (hc : cells ≤ R.cells) (hl : slots ≤ R.slots) : G l Z a0 EL tbl n0 code maxL ret R own mname Q h cells slots pc L (.long z :: S) :=
  G.leave (v := some (.long z)) (fun q => nomatch hret.symm.trans q) hq hc hl fun p e s m args below meth c T locs fs hx hby hr X hl => retOut X hx (hr.trans hret) rfl (Or.inr (Or.inl ⟨rfl, rfl, _, rfl⟩)) (hb hby hd) hl
theorem G.retA {w : Value} {t : FieldType} (hd : decode code pc = .ok (.areturn, 1)) (hret : ret = some t) (ht : t.isReference = true) (hn : narrow t w = w) (hw : w.isRef = true) (hq : Q (some w) h) (hc : cells ≤ R.cells) (hl : slots ≤ R.slots) : G l Z a0 EL tbl n0 code maxL ret R own mname Q h cells slots pc L (w :: S) :=
  G.leave (v := some w) (fun q => nomatch hret.symm.trans q) hq hc hl fun p e s m args below meth c T locs fs hx hby hr X hl => retOut X hx (hr.trans hret) hn (Or.inr (Or.inr (Or.inr (Or.inr ⟨rfl, ht, hw⟩)))) (hb hby hd) hl
theorem G.retN {z z' : Int32} {t : FieldType} (hd : decode code pc = .ok (.ireturn, 1)) (hret : ret = some t) (ht : t = .boolean ∨ t = .byte ∨ t = .char ∨ t = .short) (hz : nar t z = z') (hq : Q (some (.int z')) h) (hc : cells ≤ R.cells) (hl : slots ≤ R.slots) : G l Z a0 EL tbl n0 code maxL ret R own mname Q h cells slots pc L (.int z :: S) := by
  subst hz
  exact G.leave (v := some (.int (nar t z))) (fun q => nomatch hret.symm.trans q) hq hc hl fun p e s m args below meth c T locs fs hx hby hr X hl => Jvm.RoadKit.retN X hx (hr.trans hret) ht (hb hby hd) hl
end G
end Own
end Jvm.Pilot.@@N@@
namespace Jvm.Pilot.@@N@@
namespace Own
open Jvm Jvm.ClassFile Sem Op Lib Jvm.Free Jvm.Stand Jvm.LawKit Jvm.RoadKit Bundle
/-! ## 5. Strings -/
abbrev ST : String := "java/lang/String"
abbrev N1 : MethodName := ⟨"java/lang/String", "<init>", "([C)V"⟩
abbrev N4 : MethodName := ⟨"java/lang/String", "<init>", "([CIILjava/lang/Void;)V"⟩
section Strings
variable {l : Launch} {Z : State} {a0 : Array Value} {EL : List (String × Nat)} {tbl : List Jvm.Cond} {n0 : Nat} {R : Room} {h h' h1 h2 : Heap} {a x : Addr} {cs ds : List Int32}
/-- COMPACT_STRINGS is on -/
def CS (Z : State) : Prop := ∃ z : Int32, Sta Z Z.heap ST "COMPACT_STRINGS" "Z" (.int z) ∧ ¬ z = 0
def lat (cs : List Int32) : Prop := ∀ c ∈ cs, ¬ c < 0 ∧ ¬ (255 : Int32) < c
/-- the String at a spells cs -/
def Str (Z : State) (h : Heap) (a : Addr) (cs : List Int32) : Prop := Exa Z h a ST ∧ Fld Z h a ST "coder" "B" (.int 0) ∧ lat cs ∧ cs.length ≤ 4000 ∧
  ∃ (b : Addr) (k : ClassId), Fld Z h a ST "value" "[B" (.ref b) ∧ Arv Z h b k .byte (Int32.ofNat cs.length) ((cs.map fun c => c.toInt8.toInt32).map Value.int) (.int 0)
theorem Str.lt (F : Str Z h a cs) : a < h.size := F.1.lt
theorem Str.keep0 (F : Str Z h a cs) (K : Keep h h' []) : Str Z h' a cs := by
  obtain ⟨E, C, q1, q2, b, k, V, A⟩ := F
  exact ⟨E.keep K, C.keep K nin0, q1, q2, b, k, V.keep K nin0, A.keep K nin0⟩
theorem Str.keepE {t : Addr} {C : String} {n : Nat} (F : Str Z h a cs) (K : Keep h h' [t]) (E' : Exa Z h t C) (hC : C ≠ ST) (wi : (Jvm.Cond.instantiable C n).before a0 Z = true) : Str Z h' a cs := by
  obtain ⟨E, C1, q1, q2, b, k, V, A⟩ := F
  have n1 : a ≠ t := ne_exa E E' (Ne.symm hC)
  have n2 : b ≠ t := Ne.symm (Exa.neArv E' A wi)
  exact ⟨E.keep K, C1.keep K (ninS n1 nin0), q1, q2, b, k, V.keep K (ninS n1 nin0), A.keep K (ninS n2 nin0)⟩
theorem same_name {vm : Vm} (hal : Z.vm.Alike vm) {C D : String} {c : ClassId} (e1 : Z.vm.findClass C = some c) (e2 : vm.findClass D = some c) : C = D := by
  rw [hal.findClass] at e2
  obtain ⟨k1, q1, q2⟩ := Vm.findClass_spec e1
  obtain ⟨k2, q3, q4⟩ := Vm.findClass_spec e2
  cases q1.symm.trans q3
  exact q2.symm.trans q4
/-- a String whose value is still null is no literal -/
theorem safe_blank {vm : Vm} (hal : Z.vm.Alike vm) (E : Exa Z h x ST) (F : Fld Z h x ST "value" "[B" .null) : Safe Z EL vm h x := fun B => by
  obtain ⟨p, -, u, a, -, q, -, FF, rfl | rfl⟩ := B
  · obtain ⟨cS, ⟨⟨s1, s2, s3, ⟨cv, kv, iv, s4, s4'⟩, -, s6, s7, s8, -⟩, -, -⟩, -⟩ := FF
    obtain ⟨cell, cf, k, i, f, h1, h2, h3, h4, h5, h6, h7⟩ := F
    obtain ⟨kv', z4⟩ := ff_back (U := Wst Z vm h) hal s4
    cases h2.symm.trans z4
    cases h1.symm.trans (show h[q.sa]? = some q.sC from s1)
    cases h7.symm.trans s8
  · obtain ⟨cell, k, e1, e2, -⟩ := E
    cases (show h[q.sd]? = some q.SA from FF.hd).symm.trans e1
    obtain ⟨cS, -, -, f, -⟩ := FF
    exact absurd (same_name hal e2 f) (by decide)
theorem BK.more {y : MethodName} {len W kc ks kc' ks' : Nat} {as : Array Value} {Q : Option Value → Heap → Prop} (h1 : kc ≤ kc') (h2 : ks ≤ ks') (B : BK l Z a0 EL tbl n0 R y len W as h kc ks Q) : BK l Z a0 EL tbl n0 R y len W as h kc' ks' Q := by
  intro p e below s args vm0 hEL hw hZ H O m meth c A g ig mk a X hg hsize hdg hW hn hp
  obtain ⟨v, ⟨T, locs, k, n⟩, X', hS, hgr, ⟨L, q1, q2, q3, q4, q5, q6⟩, hst⟩ := B p e below s args vm0 hEL hw hZ H O m meth c A g ig mk a X hg hsize hdg hW hn ⟨hp.1, hp.2.1, Nat.le_trans (Nat.add_le_add_left h1 _) hp.2.2.1, Nat.le_trans (Nat.add_le_add_left h2 _) hp.2.2.2⟩
  dsimp only [Pt.U, Pt.locs, Pt.cells, Pt.slots] at X' hS hgr q1 q2 q3 q4 q5 q6 hst
  subst q2 q3 q4
  exact ⟨v, ⟨T, _, A.2.2.1 + kc', A.2.2.2 + ks'⟩, X'.mono (Nat.add_le_add_left h1 _) (Nat.add_le_add_left h2 _), hS, hgr, ⟨L, q1, rfl, rfl, rfl, q5, q6⟩, hst⟩
theorem BK.weak {y : MethodName} {len W kc ks : Nat} {as : Array Value} {Q Q' : Option Value → Heap → Prop} (hq : ∀ v h', Q v h' → Q' v h') (B : BK l Z a0 EL tbl n0 R y len W as h kc ks Q) : BK l Z a0 EL tbl n0 R y len W as h kc ks Q' := by
  intro p e below s args vm0 hEL hw hZ H O m meth c A g ig mk a X hg hsize hdg hW hn hp
  obtain ⟨v, T, X', hS, hgr, ⟨L, ⟨q1, q2, q3⟩, r⟩, hst⟩ := B p e below s args vm0 hEL hw hZ H O m meth c A g ig mk a X hg hsize hdg hW hn hp
  exact ⟨v, T, X', hS, hgr, ⟨L, ⟨q1, q2, hq _ _ q3⟩, r⟩, hst⟩
abbrev wordsE : List Jvm.Cond := [.stringLink ST 7 "", .instantiable ST 4, .soleField ST "value", .soleField ST "coder"]
theorem e0 : decode StrChars.New4.yB 0 = .ok (.aload_n 0, 1) := by decide +kernel
theorem e1 : decode StrChars.New4.yB 1 = .ok (.invokespecial 1, 3) := by decide +kernel
theorem e4 : decode StrChars.New4.yB 4 = .ok (.iload_n 3, 1) := by decide +kernel
theorem e5 : decode StrChars.New4.yB 5 = .ok (.ifCond .ne 22, 3) := by decide +kernel
theorem e8 : decode StrChars.New4.yB 8 = .ok (.aload_n 0, 1) := by decide +kernel
theorem e9 : decode StrChars.New4.yB 9 = .ok (.ldc 7, 2) := by decide +kernel
theorem e11 : decode StrChars.New4.yB 11 = .ok (.getfield 9, 3) := by decide +kernel
theorem e14 : decode StrChars.New4.yB 14 = .ok (.putfield 9, 3) := by decide +kernel
theorem e17 : decode StrChars.New4.yB 17 = .ok (.aload_n 0, 1) := by decide +kernel
theorem e18 : decode StrChars.New4.yB 18 = .ok (.ldc 7, 2) := by decide +kernel
theorem e20 : decode StrChars.New4.yB 20 = .ok (.getfield 15, 3) := by decide +kernel
theorem e23 : decode StrChars.New4.yB 23 = .ok (.putfield 15, 3) := by decide +kernel
theorem e26 : decode StrChars.New4.yB 26 = .ok (.return_, 1) := by decide +kernel
theorem pnS : plainName ST = true := by first | (simp [plainName, overriddenIn]; done) | decide +kernel
theorem efN4 (m : MethodId) (x b : Addr) : entryFrame m #[.ref x, .ref b, .int 0, .int 0, .null] 6 = mkF m 0 #[.val (.ref x), .val (.ref b), .val (.int 0), .val (.int 0), .val .null, .unset] [] := by first | (simp [entryFrame, mkF, argsToLocals, Value.category]; done) | rfl
theorem efN1 (m : MethodId) (x b : Addr) : entryFrame m #[.ref x, .ref b] 2 = mkF m 0 #[.val (.ref x), .val (.ref b)] [] := by first | (simp [entryFrame, mkF, argsToLocals, Value.category]; done) | rfl
/-- what new String(..) leaves -/
def QS (Z : State) (x : Addr) (cs : List Int32) (h : Heap) (v : Option Value) (h' : Heap) : Prop := v = none ∧ Keep h h' [x] ∧ Str Z h' x cs
set_option maxRecDepth 65536 in
set_option maxHeartbeats 4000000 in
/-- String(char[], int, int, Void) at length 0: the literal "" lends its array -/
theorem new4e (hws : ∀ d ∈ StrChars.Road.words, d ∈ tbl) (hwe : ∀ d ∈ wordsE, d ∈ tbl) (hmem : (ST, 7) ∈ EL) {b : Addr} (hx0 : n0 ≤ x) (E : Exa Z h x ST) (V : Fld Z h x ST "value" "[B" .null) (C : Fld Z h x ST "coder" "B" (.int 0)) :
    Ct l Z a0 EL tbl [] n0 N4 StrChars.New4.yB 6 none ({ frames := 1, cells := 2, slots := 4, locals := 12 } : Room) #[.ref x, .ref b, .int 0, .int 0, .null] h (QS Z x [] h) := by
  intro hEL hw0 hO
  refine MetFree.of_bodySF (plainFor_of_name pnS) hisR ?_
  intro p e s m args below meth c s₁ Bd hml0 hP hK
  obtain ⟨rfl, hZ, hh, hCH⟩ := hP
  subst hh
  have hw : ∀ d ∈ StrChars.Road.words, d.before a0 Z = true := fun d hd => hw0 d (hws d hd)
  have hwE : ∀ d ∈ wordsE, d.before a0 Z = true := fun d hd => hw0 d (hwe d hd)
  have hx := Bd.exec
  have hby := Bd.bytes
  have hml : c.maxLocals = 6 := hml0
  have hown : s.vm.findClass ST = some m.cls := findClass_of_methodNamed Bd.named
  have hnm := (name_of_methodNamed Bd.named Bd.method).1
  have X0 : Stand p l e ({ frames := 1, cells := 2, slots := 4, locals := 12 } : Room) s m #[.ref x, .ref b, .int 0, .int 0, .null] below meth c s₁ [] 0 0 := Stand.of_body Bd
  have e0' : s₁.heap = s.heap := by rw [Bd.state]; rfl
  have wi : (Jvm.Cond.instantiable ST 4).before a0 Z = true := hwE _ (by simp [wordsE])
  have wv : (Jvm.Cond.laysFinal ST ST "value" "[B").before a0 Z = true := hw _ (by simp [StrChars.Road.words])
  have wc : (Jvm.Cond.laysFinal ST ST "coder" "B").before a0 Z = true := hw _ (by simp [StrChars.Road.words])
  have wS : ∀ d ∈ Bundle.stringAtoms, d.before a0 Z = true := fun d hd => by
    simp only [Bundle.stringAtoms, List.mem_cons, List.not_mem_nil, or_false] at hd
    rcases hd with rfl | rfl | rfl | rfl | rfl | rfl | rfl
    · exact hw _ (by simp [StrChars.Road.words, Bundle.sN])
    · exact wi
    · exact hw _ (by simp [StrChars.Road.words])
    · exact wv
    · exact wc
    · exact hwE _ (by simp [wordsE, Bundle.sN])
    · exact hwE _ (by simp [wordsE, Bundle.sN])
  have wl : (Jvm.Cond.stringLink ST 7 "").before a0 Z = true := hwE _ (by simp [wordsE])
  obtain ⟨T1, X1, e1', st1⟩ := Jvm.RoadKit.initO X0 hx hZ hown (hw _ (by simp [StrChars.Road.words])) (hw _ (by simp [StrChars.Road.words])) (hw _ (by simp [StrChars.Road.words])) e0' (g := mkF m 1 #[.val (.ref x), .val (.ref b), .val (.int 0), .val (.int 0), .val .null, .unset] [.ref x]) rfl (by rw [hml]; rfl) rfl (hb hby e1) (by decide) (W := 0) (by show 2 * 0 + _ ≤ _; exact Nat.le_of_eq rfl) (by decide)
  have X1' : Stand p l e ({ frames := 1, cells := 2, slots := 4, locals := 12 } : Room) (s.setVm s.vm) m #[.ref x, .ref b, .int 0, .int 0, .null] below meth c T1 [] 0 0 := X1
  obtain ⟨a, T2, h2, k1, bb, kb, X2, e2, E2, S2, hk2, Z2, o2, Ea, Ca, Va, Ab, la, lb, C2, Lt, ne2, st2⟩ := ldcCH X1' hx hZ hown wl wS e1' ((State.WarmedH.refl s).since 0) (Nat.zero_le _) hEL hmem hCH (vs := []) (z := 0) ⟨fun c hc => (nomatch hc), rfl⟩ (by decide) rfl (g := mkF m 9 #[.val (.ref x), .val (.ref b), .val (.int 0), .val (.int 0), .val .null, .unset] [.ref x]) rfl (hb hby e9) (n := 0) (Nat.le_refl _) (by decide) (by decide) (by decide)
  have sf0 : Safe Z EL s.vm s.heap x := safe_blank (Z := Z) hZ.alike E V
  have sf2 : Safe Z EL T2.vm h2 x := C2.safe E.lt sf0
  obtain ⟨nea, neb⟩ := ne2 x sf2
  obtain ⟨T3, X3, e3', st3⟩ := Jvm.RoadKit.getF X2 hx Z2 o2 (host := "") (Or.inl (hw _ (by simp [StrChars.Road.words]))) Via.refl e2 Va (g := mkF m 11 #[.val (.ref x), .val (.ref b), .val (.int 0), .val (.int 0), .val .null, .unset] [.ref a, .ref x]) rfl rfl (hb hby e11)
  obtain ⟨T4, h4, X4, e4', W4, st4⟩ := Jvm.RoadKit.putF X3 hx Z2 o2 (host := "") (Or.inl (hw _ (by simp [StrChars.Road.words]))) Via.refl e3' (V.ext E2) (E.ext E2) (Or.inr ⟨wv, rfl, hnm⟩) wi (ty := .array .byte) (by decide) rfl rfl (g := mkF m 14 #[.val (.ref x), .val (.ref b), .val (.int 0), .val (.int 0), .val .null, .unset] [.ref bb, .ref x]) rfl rfl (hb hby e14)
  have C4 := C2.trans (CHr.wr W4 sf2 C2.1)
  have sf4 : Safe Z EL T2.vm h4 x := Safe.wr W4 sf2 C2.1 sf2
  have st5 := ldcAgain X4 hx Z2 o2 wl Lt (g := mkF m 18 #[.val (.ref x), .val (.ref b), .val (.int 0), .val (.int 0), .val .null, .unset] [.ref x]) rfl (hb hby e18)
  obtain ⟨T6, X6, e6', st6⟩ := Jvm.RoadKit.getF X4 hx Z2 o2 (host := "") (Or.inl (hw _ (by simp [StrChars.Road.words]))) Via.refl e4' (Ca.other W4 (Or.inl (Ne.symm nea))) (g := mkF m 20 #[.val (.ref x), .val (.ref b), .val (.int 0), .val (.int 0), .val .null, .unset] [.ref a, .ref x]) rfl rfl (hb hby e20)
  have sl : Jvm.RoadKit.slotOf Z ST "value" "[B" ≠ Jvm.RoadKit.slotOf Z ST "coder" "B" := Jvm.RoadKit.slot_ne (a0 := a0) (C := ST) (Or.inr wv) (Or.inr wc) (by decide) (t := .array .byte) (by decide) (t' := .byte) (by decide)
  obtain ⟨T7, h7, X7, e7', W7, st7⟩ := Jvm.RoadKit.putF X6 hx Z2 o2 (host := "") (Or.inl (hw _ (by simp [StrChars.Road.words]))) Via.refl e6' ((C.ext E2).other W4 (Or.inr (Ne.symm sl))) ((E.ext E2).wr W4) (Or.inr ⟨wc, rfl, hnm⟩) wi (ty := .byte) (by decide) rfl rfl (g := mkF m 23 #[.val (.ref x), .val (.ref b), .val (.int 0), .val (.int 0), .val .null, .unset] [.int 0, .ref x]) rfl rfl (hb hby e23)
  have C7 := C4.trans (CHr.wr W7 sf4 C4.1)
  have N7 : Fr n0 _ := Fr.snoc X7 (Fr.snoc X4 (Fr.nil n0) hx0) hx0
  have K7 : Keep s.heap h7 [x] := (((Keep.refl s.heap [x]).ext E2).wr W4 (Or.inl (List.mem_singleton.mpr rfl))).wr W7 (Or.inl (List.mem_singleton.mpr rfl))
  have hk7 : k1 ≤ T7.heap.size := by rw [e7', W7.size, W4.size]; exact hk2
  obtain ⟨fs, hr, hrun, hended, hE⟩ := X7.leaveW S2 hk7 (v := none) (fun _ => rfl) Bd.notSynchronized
  rw [efN4 m x b]
  refine ⟨_, _, ?_, hrun, hended, none, _, rfl, ⟨N7, ?_, ?_⟩, ?_, hE, fun q => absurd hmem (by rw [q]; exact List.not_mem_nil)⟩
  · refine XS.aloadN X0.here hx rfl (hb hby e0) rfl rfl ?_
    refine st1 _ ?_
    refine XS.iloadN X1.here hx rfl (hb hby e4) rfl ?_
    refine XS.ifNo X1.here hx rfl (hb hby e5) rfl (XT.i0_ne_f rfl) ?_
    refine XS.aloadN X1.here hx rfl (hb hby e8) rfl rfl ?_
    refine st2 _ ?_
    refine st3 _ ?_
    refine st4 _ ?_
    refine XS.aloadN X4.here hx rfl (hb hby e17) rfl rfl ?_
    refine st5 _ ?_
    refine st6 _ ?_
    refine st7 _ ?_
    exact X7.returnOut hx Bd.returns (hb hby e26) hr
  · show Old Z n0 T7.heap
    rw [e7']; exact hO.keep K7 (allS hx0 all0)
  · show QS Z x [] s.heap none T7.heap
    rw [e7']
    refine ⟨rfl, K7, ((E.ext E2).wr W4).wr W7, Fld.same W7 ((C.ext E2).other W4 (Or.inr (Ne.symm sl))), fun c hc => (nomatch hc), Nat.zero_le _, bb, kb, (Fld.same W4 (V.ext E2)).other W7 (Or.inr sl), ?_⟩
    exact (Ab.other W4 (Ne.symm neb)).other W7 (Ne.symm neb)
  · show CHr Z EL s.vm s.heap T7.vm T7.heap
    rw [e7']
    exact C7.trans (CHv.at X7 Z2 hEL C7.1)
theorem G.arrlen {code : ByteArray} {maxL : Nat} {ret : Option FieldType} {own mname : String} {Q : Option Value → Heap → Prop} {cells slots pc : Nat} {L : Array Slot} {S : List Value} {kA : ClassId} {ty : FieldType} {z : Int32} {vs : List Value} {dv : Value} (hd : decode code pc = .ok (.arraylength, 1)) (A : Arv Z h a kA ty z vs dv)
    (k : G l Z a0 EL tbl n0 code maxL ret R own mname Q h cells slots (pc + 1) L (.int z :: S)) : G l Z a0 EL tbl n0 code maxL ret R own mname Q h cells slots pc L (.ref a :: S) := by
  intro p e s m args below meth c T vm0 k0 locs P
  obtain ⟨hx, hby, hml, hret, hlk, hnm, hEL, hw, X, eT, r⟩ := id P
  obtain ⟨hS, hk, hZ, -⟩ := r
  obtain ⟨cl, A1, A2, A3, A4, A5, A6⟩ := A
  exact back_steps (fun t ht => X.arraylength hx (by rw [eT]; exact A1.1) (State.isArrayOf_alike (s := Z) hZ.alike A1.2.1) (g := mkF m pc L (.ref a :: S)) rfl rfl (hb hby hd) t (by rw [len_of A3 A4]; exact ht)) (k p e s m args below meth c T vm0 k0 locs P)
theorem G.caload {code : ByteArray} {maxL : Nat} {ret : Option FieldType} {own mname : String} {Q : Option Value → Heap → Prop} {cells slots pc : Nat} {L : Array Slot} {S : List Value} {kA : ClassId} {z j : Int32} {vs : List Value} {dv v : Value} (hd : decode code pc = .ok (.caload, 1)) (A : Arv Z h a kA .char z vs dv) (hj : ¬ j < 0 ∧ j < z) (hv : vs.getD j.toNatClampNeg dv = v)
    (k : G l Z a0 EL tbl n0 code maxL ret R own mname Q h cells slots (pc + 1) L (v :: S)) : G l Z a0 EL tbl n0 code maxL ret R own mname Q h cells slots pc L (.int j :: .ref a :: S) := by
  intro p e s m args below meth c T vm0 k0 locs P
  obtain ⟨hx, hby, hml, hret, hlk, hnm, hEL, hw, X, eT, r⟩ := id P
  obtain ⟨hS, hk, hZ, -⟩ := r
  obtain ⟨cl, A1, A2, A3, A4, A5, A6⟩ := A
  exact back_steps (fun t ht => X.caload hx (by rw [eT]; exact A1.1) (State.isArrayOf_alike (s := Z) hZ.alike A1.2.1) A1.2.2 (inb_of A3 hj) (A5.at (inb_of A3 hj) hv) (g := mkF m pc L (.int j :: .ref a :: S)) rfl rfl (hb hby hd) t ht) (k p e s m args below meth c T vm0 k0 locs P)
theorem pdN4 : parseMethodDescriptor "([CIILjava/lang/Void;)V" = some ⟨[.array .char, .int, .int, .object "java/lang/Void"], none⟩ := by decide +kernel
theorem pdN1 : parseMethodDescriptor "([C)V" = some ⟨[.array .char], none⟩ := by decide +kernel
set_option maxRecDepth 65536 in
theorem new1e (hws : ∀ d ∈ StrChars.Road.words, d ∈ tbl) (hwe : ∀ d ∈ wordsE, d ∈ tbl) (hmem : (ST, 7) ∈ EL) {b : Addr} {kC : ClassId} {vs : List Value} {dv : Value} (hx0 : n0 ≤ x) (E : Exa Z h x ST) (V : Fld Z h x ST "value" "[B" .null) (C : Fld Z h x ST "coder" "B" (.int 0)) (K : Arv Z h b kC .char 0 vs dv) :
    Ct l Z a0 EL tbl [] n0 N1 StrChars.New1.yB 2 none ({ frames := 2, cells := 2, slots := 4, locals := 29 } : Room) #[.ref x, .ref b] h (QS Z x [] h) := by
  refine Ct.of_body pnS (fun m => efN1 m x b) (fun _ _ _ => ?_)
  refine G.seg [(0, .aload_n 0, 1), (1, .aload_n 1, 1), (2, .iconst 0, 1), (3, .aload_n 1, 1)] (by decide +kernel) (pc' := 4) (L' := #[.val (.ref x), .val (.ref b)]) (S' := [.ref b, .int 0, .ref b, .ref x]) rfl ?_
  refine G.arrlen (by decide +kernel) K ?_
  refine G.seg [(5, .aconst_null, 1)] (by decide +kernel) (pc' := 6) (L' := #[.val (.ref x), .val (.ref b)]) (S' := [.null, .int 0, .int 0, .ref b, .ref x]) rfl ?_
  refine G.special (y := N4) (idx := 27) (a := x) (argsL := [.ref b, .int 0, .int 0, .null]) (rest := []) rfl (by decide +kernel) (hws _ (by simp [StrChars.Road.words, StrChars.New4.yN])) (hws _ (by simp [StrChars.Road.words, StrChars.New4.yN])) (hws (.code N4 StrChars.New4.yB 6 none) (by simp [StrChars.Road.words, StrChars.New4.yN])) (by decide)
    ((new4e hws hwe hmem hx0 E V C).pays (W := 0) (hws _ (by simp [StrChars.Road.words, StrChars.New4.yN])) (hws _ (by simp [StrChars.Road.words])) (by decide) (by decide)) (lenOf pdN4 rfl) rfl (Nat.le_of_eq rfl) rfl (by decide) (by decide) ?_
  rintro v h' ⟨rfl, q⟩
  exact G.retV (by decide +kernel) rfl ⟨rfl, q⟩ (by decide) (by decide)
theorem up (q : lat cs) : ∀ c ∈ cs, ¬ c < 0 ∧ ¬ (65535 : Int32) < c := fun c hc => ⟨(q c hc).1, fun r => (q c hc).2 (by rw [Int32.lt_iff_toInt_lt] at r ⊢; have e1 : (65535 : Int32).toInt = 65535 := rfl; have e2 : (255 : Int32).toInt = 255 := rfl; omega)⟩
/-- **new String(char[])**, any length from 0 on -/
theorem newStr {W : Nat} (hws : ∀ d ∈ StrChars.Road.words, d ∈ tbl) (hwe : ∀ d ∈ wordsE, d ∈ tbl) (hmem : (ST, 7) ∈ EL) {b : Addr} {kC : ClassId} {dv : Value} (hx0 : n0 ≤ x) (E : Exa Z h x ST) (V : Fld Z h x ST "value" "[B" .null) (C : Fld Z h x ST "coder" "B" (.int 0)) (K : Arv Z h b kC .char (Int32.ofNat cs.length) (cs.map Value.int) dv)
    (hcs : CS Z) (hlat : lat cs) (hlen : cs.length ≤ 4000) (hf : 4 ≤ R.frames) (hlo : W + 65 ≤ R.locals) :
    BK l Z a0 EL tbl n0 R N1 3 W #[.ref x, .ref b] h 2 (cs.length + 4) (QS Z x cs h) := by
  rcases Nat.eq_zero_or_pos cs.length with h0 | h0
  · obtain rfl : cs = [] := List.eq_nil_of_length_eq_zero h0
    exact (new1e hws hwe hmem hx0 E V C K).pays (hws _ (by simp [StrChars.Road.words, StrChars.New1.yN])) (hws _ (by simp [StrChars.Road.words])) (Nat.le_trans (by decide) hf) (by show W + (2 + 11) + 29 ≤ _; omega)
  · refine BK.more (kc := 1) (ks := cs.length) (by decide) (Nat.le_add_right _ _) (BK.of_back (ws := [x]) (allS hx0 all0) (fun vm hv => sfS (safe_blank (Z := Z) hv.alike E V) sf0) fun p e below s args vm0 hw hZ O => ?_)
    obtain ⟨z, Sz, hz⟩ := hcs
    intro m meth c A g ig mk a X hg hsize hdg hW hn hp
    obtain ⟨v, B, X', ⟨Lc, ⟨q1, q2, q3, q4, q5, t, kb, r1, r2, r3, r4, r5⟩, q7⟩, st⟩ := StrChars.Road.backV (W := W) (s := s.setVm vm0) hZ (fun d hd => hw d (hws d hd)) (kI := 4) (hw _ (hwe _ (by simp [wordsE]))) (cs := cs) (bs := cs.map (fun c => c.toInt8.toInt32)) (n := cs.length) hx0 (O.1 ▸ O.2.1) E V C K (Sz.ext O.2) hz rfl rfl h0 hlen hlat rfl hf hlo m meth c A g ig mk a X hg hsize hdg hW hn hp
    exact ⟨v, B, X', ⟨Lc, ⟨q2, q3, q1, q3, q4, q5, hlat, hlen, t, kb, r4, r5⟩, q7⟩, st⟩
end Strings
end Own
end Jvm.Pilot.@@N@@
namespace Jvm.Pilot.@@N@@
namespace Own
open Jvm Jvm.ClassFile Sem Op Lib Jvm.Free Jvm.Stand Jvm.LawKit Jvm.RoadKit Bundle
section Str1
variable {l : Launch} {Z : State} {a0 : Array Value} {EL : List (String × Nat)} {tbl : List Jvm.Cond} {n0 : Nat} {R : Room} {h h' h1 h2 : Heap} {a x y : Addr} {cs ds : List Int32}
/-- new String(char[]) of one sign or more: no constant is asked -/
theorem newStr1 {W : Nat} (hws : ∀ d ∈ StrChars.Road.words, d ∈ tbl) (wi : Jvm.Cond.instantiable ST 4 ∈ tbl) {b : Addr} {kC : ClassId} {dv : Value} (hx0 : n0 ≤ x) (E : Exa Z h x ST) (V : Fld Z h x ST "value" "[B" .null) (C : Fld Z h x ST "coder" "B" (.int 0)) (K : Arv Z h b kC .char (Int32.ofNat cs.length) (cs.map Value.int) dv)
    (hcs : CS Z) (hlat : lat cs) (h0 : 0 < cs.length) (hlen : cs.length ≤ 4000) (hf : 4 ≤ R.frames) (hlo : W + 65 ≤ R.locals) :
    BK l Z a0 EL tbl n0 R N1 3 W #[.ref x, .ref b] h 1 cs.length (QS Z x cs h) := by
  refine BK.of_back (ws := [x]) (allS hx0 all0) (fun vm hv => sfS (safe_blank (Z := Z) hv.alike E V) sf0) fun p e below s args vm0 hw hZ O => ?_
  obtain ⟨z, Sz, hz⟩ := hcs
  intro m meth c A g ig mk a X hg hsize hdg hW hn hp
  obtain ⟨v, B, X', ⟨Lc, ⟨q1, q2, q3, q4, q5, t, kb, r1, r2, r3, r4, r5⟩, q7⟩, st⟩ := StrChars.Road.backV (W := W) (s := s.setVm vm0) hZ (fun d hd => hw d (hws d hd)) (kI := 4) (hw _ wi) (cs := cs) (bs := cs.map (fun c => c.toInt8.toInt32)) (n := cs.length) hx0 (O.1 ▸ O.2.1) E V C K (Sz.ext O.2) hz rfl rfl h0 hlen hlat rfl hf hlo m meth c A g ig mk a X hg hsize hdg hW hn hp
  exact ⟨v, B, X', ⟨Lc, ⟨q2, q3, q1, q3, q4, q5, hlat, hlen, t, kb, r4, r5⟩, q7⟩, st⟩
end Str1
end Own
end Jvm.Pilot.@@N@@
namespace Jvm.Pilot.@@N@@
namespace Own
open Jvm Jvm.ClassFile Sem Op Lib Jvm.Free Jvm.Stand Jvm.LawKit Jvm.RoadKit Bundle
section StrLen
variable {l : Launch} {Z : State} {a0 : Array Value} {EL : List (String × Nat)} {tbl : List Jvm.Cond} {n0 : Nat} {R : Room} {h h' h1 h2 : Heap} {a x y : Addr} {cs ds : List Int32}
/-- **length** of a String -/
theorem lenB {W : Nat} (hwl : ∀ d ∈ StrChars.Road.wordsLen, d ∈ tbl) (wi : Jvm.Cond.instantiable ST 4 ∈ tbl) (A : Str Z h x cs) (hcs : CS Z) (hf : 2 ≤ R.frames) (hlo : W + 25 ≤ R.locals) :
    BK l Z a0 EL tbl n0 R ⟨ST, "length", "()I"⟩ 3 W #[.ref x] h 0 0 (fun v h' => h' = h ∧ v = some (.int (Int32.ofNat cs.length))) := by
  refine BK.of_back (ws := []) all0 (fun _ _ => sf0) fun p e below s args vm0 hw hZ O => ?_
  obtain ⟨z, Sz, hz⟩ := hcs
  obtain ⟨E, C, q1, q2, b, k, V, K⟩ := A
  intro m meth c A g ig mk a X hg hsize hdg hW hn hp
  obtain ⟨v, B, X', ⟨Lc, ⟨hv, rfl, hh⟩, q7⟩, st⟩ := StrChars.Road.lenW (W := W) (s := s.setVm vm0) hZ (fun d hd => hw d (hwl d hd)) (kI := 4) (hw _ wi) E V C K (StrChars.Road.codOf rfl fun c hc => (q1 c hc).2) (up q1) (Sz.ext O.2) hz q2 hf hlo m meth c A g ig mk a X hg hsize hdg hW hn hp
  exact ⟨v, B, X', ⟨[], ⟨Fr.nil n0, by rw [hh]; exact Keep.refl _ _, hh, hv⟩, q7⟩, st⟩
end StrLen
end Own
end Jvm.Pilot.@@N@@
namespace Jvm.Pilot.@@N@@
namespace Own
open Jvm Jvm.ClassFile Sem Op Lib Jvm.Free Jvm.Stand Jvm.LawKit Jvm.RoadKit Bundle
section Bytes
variable {l : Launch} {Z : State} {a0 : Array Value} {EL : List (String × Nat)} {tbl : List Jvm.Cond} {n0 : Nat} {code : ByteArray} {maxL : Nat} {ret : Option FieldType} {R : Room} {own mname : String} {Q : Option Value → Heap → Prop} {h : Heap} {cells slots pc : Nat} {L : Array Slot} {S : List Value}
/-- bastore into a byte[], in a walk that interns nothing -/
theorem G.bastore {a : Addr} {kA : ClassId} {z j x x' : Int32} {vs : List Value} {dv : Value} {i : Nat} (hE : EL = []) (hd : decode code pc = .ok (.bastore, 1)) (A : Arv Z h a kA .byte z vs dv) (ha : n0 ≤ a) (hj : ¬ j < 0 ∧ j < z) (hi : j.toNatClampNeg = i) (hlen : i < vs.length) (hx' : nar .byte x = x')
    (k : ∀ h', Keep h h' [a] → Arv Z h' a kA .byte z (vs.set i (.int x')) dv → G l Z a0 EL tbl n0 code maxL ret R own mname Q h' cells slots (pc + 1) L S) :
    G l Z a0 EL tbl n0 code maxL ret R own mname Q h cells slots pc L (.int x :: .int j :: .ref a :: S) := by
  subst hx'
  intro p e s m args below meth c T vm0 k0 locs P
  obtain ⟨hx, hby, hml, hret, hlk, hnm, hEL, hw, X, eT, hS, hk, hZ, hown, N, H, O, Wm⟩ := P
  obtain ⟨cl, A1, A2, A3, A4, A5, A6⟩ := A
  obtain ⟨T', h', X', e', W, st⟩ := stB X hx hZ eT A1 (inb_of A3 hj) (g := mkF m pc L (.int x :: .int j :: .ref a :: S)) rfl rfl (hb hby hd)
  exact back_steps st (k h' (Keep.of_wr W) (Arv.set A1 A2 A3 A4 A5 A6 (fits_nar_byte x) W i hi hlen) p e s m args below meth c T' vm0 k0 _ ⟨hx, hby, hml, hret, hlk, hnm, hEL, hw, X', e', hS, by rw [W.size]; exact hk, hZ, hown, Fr.snoc X' N ha, H.trans (CHr.wr W (safe_nil hE) H.1), O.wr W ha, Wm⟩)
theorem nar_byte8 (x : Int32) : nar .byte x.toInt8.toInt32 = x.toInt8.toInt32 := by simp [nar]
end Bytes
end Own
end Jvm.Pilot.@@N@@
namespace Jvm.Pilot.@@N@@
namespace Own
open Jvm Jvm.ClassFile Sem Op Lib Jvm.Free Jvm.Stand Jvm.LawKit Jvm.RoadKit Bundle
section More
variable {l : Launch} {Z : State} {a0 : Array Value} {EL : List (String × Nat)} {tbl : List Jvm.Cond} {n0 : Nat} {code : ByteArray} {maxL : Nat} {ret : Option FieldType} {R : Room} {own mname : String} {Q : Option Value → Heap → Prop} {h : Heap} {cells slots pc : Nat} {L : Array Slot} {S : List Value} {a : Addr}
/-- a loop: from any of its heads one comes to the end or to a lower head -/
theorem G.loop {α : Type} (μ : α → Nat) (P : α → Prop) (J : α → Heap × Nat × Nat × Nat × Array Slot × List Value) (x0 : α) (e : J x0 = (h, cells, slots, pc, L, S)) (h0 : P x0)
    (body : ∀ x, P x → (∀ y, P y → μ y < μ x → G l Z a0 EL tbl n0 code maxL ret R own mname Q (J y).1 (J y).2.1 (J y).2.2.1 (J y).2.2.2.1 (J y).2.2.2.2.1 (J y).2.2.2.2.2) → G l Z a0 EL tbl n0 code maxL ret R own mname Q (J x).1 (J x).2.1 (J x).2.2.1 (J x).2.2.2.1 (J x).2.2.2.2.1 (J x).2.2.2.2.2) :
    G l Z a0 EL tbl n0 code maxL ret R own mname Q h cells slots pc L S := by
  have key : ∀ n x, μ x < n → P x → G l Z a0 EL tbl n0 code maxL ret R own mname Q (J x).1 (J x).2.1 (J x).2.2.1 (J x).2.2.2.1 (J x).2.2.2.2.1 (J x).2.2.2.2.2 := by
    intro n
    induction n with
    | zero => exact fun x q => absurd q (Nat.not_lt_zero _)
    | succ n ih => exact fun x q hx => body x hx fun y hy r => ih y (Nat.lt_of_lt_of_le r (Nat.le_of_lt_succ q)) hy
  have := key _ x0 (Nat.lt_succ_self _) h0
  rw [e] at this; exact this
theorem G.baload {kA : ClassId} {z j : Int32} {vs : List Value} {dv v : Value} (hd : decode code pc = .ok (.baload, 1)) (A : Arv Z h a kA .byte z vs dv) (hj : ¬ j < 0 ∧ j < z) (hv : vs.getD j.toNatClampNeg dv = v)
    (k : G l Z a0 EL tbl n0 code maxL ret R own mname Q h cells slots (pc + 1) L (v :: S)) : G l Z a0 EL tbl n0 code maxL ret R own mname Q h cells slots pc L (.int j :: .ref a :: S) := by
  intro p e s m args below meth c T vm0 k0 locs P
  obtain ⟨hx, hby, hml, hret, hlk, hnm, hEL, hw, X, eT, r⟩ := id P
  obtain ⟨hS, hk, hZ, -⟩ := r
  obtain ⟨cl, A1, A2, A3, A4, A5, A6⟩ := A
  exact back_steps (fun t ht => X.baloadBytes hx (by rw [eT]; exact A1.1) (State.isArrayOf_alike (s := Z) hZ.alike A1.2.1) A1.2.2 (inb_of A3 hj) (A5.at (inb_of A3 hj) hv) (g := mkF m pc L (.int j :: .ref a :: S)) rfl rfl (hb hby hd) t ht) (k p e s m args below meth c T vm0 k0 locs P)
theorem G.ldcI {idx : Nat} {v : Int32} (hd : decode code pc = .ok (.ldc idx, 2)) (w : Jvm.Cond.constant own idx v ∈ tbl)
    (k : G l Z a0 EL tbl n0 code maxL ret R own mname Q h cells slots (pc + 2) L (.int v :: S)) : G l Z a0 EL tbl n0 code maxL ret R own mname Q h cells slots pc L S := by
  intro p e s m args below meth c T vm0 k0 locs P
  obtain ⟨hx, hby, hml, hret, hlk, hnm, hEL, hw, X, eT, r⟩ := id P
  obtain ⟨hS, hk, hZ, hown, -⟩ := r
  exact back_steps (fun t ht => X.ldcInt hx hown (mvT hZ (hw _ w)) (g := mkF m pc L S) rfl (hb hby hd) t ht) (k p e s m args below meth c T vm0 k0 locs P)
theorem G.ldcJ {idx : Nat} {v : Int64} (hd : decode code pc = .ok (.ldc2_w idx, 3)) (w : Jvm.Cond.constantLong own idx v ∈ tbl)
    (k : G l Z a0 EL tbl n0 code maxL ret R own mname Q h cells slots (pc + 3) L (.long v :: S)) : G l Z a0 EL tbl n0 code maxL ret R own mname Q h cells slots pc L S := by
  intro p e s m args below meth c T vm0 k0 locs P
  obtain ⟨hx, hby, hml, hret, hlk, hnm, hEL, hw, X, eT, r⟩ := id P
  obtain ⟨hS, hk, hZ, hown, -⟩ := r
  exact back_steps (fun t ht => X.ldc2Long hx hown (mvT hZ (hw _ w)) (g := mkF m pc L S) rfl (hb hby hd) t ht) (k p e s m args below meth c T vm0 k0 locs P)
theorem keepSet {c c' : Cell} (q : h[a]? = some c) (h1 : c'.cls = c.cls) (h2 : c'.vm = c.vm) (h3 : c'.slots.size = c.slots.size) : Keep h (h.setIfInBounds a c') [a] := by
  refine ⟨by simp, fun x cx hx r => ?_, fun x cx hx => ?_⟩
  · have : a ≠ x := fun z => r (by simp [z])
    rw [Array.getElem?_setIfInBounds_ne this]; exact hx
  · by_cases z : a = x
    · subst z; cases q.symm.trans hx
      exact ⟨c', by rw [Array.getElem?_setIfInBounds_self_of_lt (Array.getElem?_eq_some_iff.mp q).1], h1, h2, h3⟩
    · exact ⟨cx, by rw [Array.getElem?_setIfInBounds_ne z]; exact hx, rfl, rfl, rfl⟩
theorem fits_int {v : Value} (q : fits .byte v = true) : ∃ x, v = .int x := by cases v <;> simp [fits] at q ⊢
theorem G.arrcopy {src dst : Addr} {kA kB : ClassId} {z1 z2 i1 i2 i3 : Int32} {vs ds ds' : List Value} {dv dw : Value} {o q n idx : Nat} (hE : EL = []) (hd : decode code pc = .ok (.invokestatic idx, 3))
    (w1 : Jvm.Cond.methodLink own idx arraycopyName ∈ tbl) (w2 : Jvm.Cond.native arraycopyName ∈ tbl) (w3 : Jvm.Cond.static arraycopyName ∈ tbl) (w4 : Jvm.Cond.initialized "java/lang/System" ∈ tbl)
    (A : Arv Z h src kA .byte z1 vs dv) (B : Arv Z h dst kB .byte z2 ds dw) (hn0 : n0 ≤ dst) (e1 : i1 = Int32.ofNat o) (e2 : i2 = Int32.ofNat q) (e3 : i3 = Int32.ofNat n) (ho : o < 2 ^ 31) (hq : q < 2 ^ 31) (hn : n < 2 ^ 31) (h4 : o + n ≤ z1.toNatClampNeg) (h5 : q + n ≤ z2.toNatClampNeg)
    (hds : ∀ j, j < z2.toNatClampNeg → ds'.getD j dw = if q ≤ j ∧ j < q + n then vs.getD (o + (j - q)) dv else ds.getD j dw)
    (hfr : 1 ≤ R.frames) (hlo : (S.map fun v => v.category).sum + 18 ≤ R.locals) (hsz : L.size = maxL)
    (k : ∀ h', Keep h h' [dst] → Arv Z h' dst kB .byte z2 ds' dw → G l Z a0 EL tbl n0 code maxL ret R own mname Q h' cells slots (pc + 3) L S) :
    G l Z a0 EL tbl n0 code maxL ret R own mname Q h cells slots pc L (.int i3 :: .int i2 :: .ref dst :: .int i1 :: .ref src :: S) := by
  subst e1 e2 e3
  intro p e s m args below meth c T vm0 k0 locs P
  obtain ⟨hx, hby, hml, hret, hlk, hnm, hEL, hw, X, eT, hS, hk, hZ, hown, N, H, O, Wm⟩ := P
  obtain ⟨cs, A1, A2, A3, A4, A5, A6⟩ := A
  obtain ⟨cd, B1, B2, B3, B4, B5, B6⟩ := B
  obtain ⟨s1, ks, s2, sC, s3⟩ := State.isArrayOf_alike (s := Z) (T := s.setVm vm0) hZ.alike A1.2.1
  obtain ⟨d1, kd, d2, dC, d3⟩ := State.isArrayOf_alike (s := Z) (T := s.setVm vm0) hZ.alike B1.2.1
  have eo : (Int32.ofNat o).toNatClampNeg = o := Int32.toNatClampNeg_ofNat_of_lt ho
  have eq : (Int32.ofNat q).toNatClampNeg = q := Int32.toNatClampNeg_ofNat_of_lt hq
  have en : (Int32.ofNat n).toNatClampNeg = n := Int32.toNatClampNeg_ofNat_of_lt hn
  have io : (Int32.ofNat o).toInt = o := Int32.toInt_ofNat_small ho
  have iq : (Int32.ofNat q).toInt = q := Int32.toInt_ofNat_small hq
  have iN : (Int32.ofNat n).toInt = n := Int32.toInt_ofNat_small hn
  have z0 : (0 : Int32).toInt = 0 := rfl
  have src_at : ∀ j, j < n → cs.slots.getD (o + j) .null = vs.getD (o + j) dv := fun j hj => by
    have := A5 (o + j) (by omega)
    simp [Array.getD_eq_getD_getElem?, this]
  obtain ⟨vm', X', st⟩ := X.arraycopy hx hown (mvT hZ (hw _ w1)) (mvT hZ (hw _ w2)) (mvT hZ (hw _ w3)) (mvT hZ (hw _ w4)) (src := src) (dst := dst) (srcPos := Int32.ofNat o) (destPos := Int32.ofNat q) (n := Int32.ofNat n)
    (by rw [eT]; exact A1.1) (by rw [eT]; exact B1.1) s1 d1 A1.2.2 B1.2.2 s2 d2 s3 d3 rfl (by rw [Int32.lt_iff_toInt_lt, io, z0]; omega) (by rw [Int32.lt_iff_toInt_lt, iq, z0]; omega) (by rw [Int32.lt_iff_toInt_lt, iN, z0]; omega)
    (by rw [io, iN]; omega) (by rw [iq, iN]; omega)
    (fun vm' _ i hi => by
      rw [en] at hi; rw [eo, src_at i hi]
      have f := A6 (o + i) (by omega)
      obtain ⟨x, ex⟩ := fits_int f
      rw [ex] at f ⊢
      exact ⟨f, trivial⟩)
    (g := mkF m pc L (.int (Int32.ofNat n) :: .int (Int32.ofNat q) :: .ref dst :: .int (Int32.ofNat o) :: .ref src :: S)) rfl (hsz.trans hml.symm) (rest := S) rfl (hb hby hd) hfr (by
      rw [nativeFrameWords_plain 5 (by decide)]; show 2 * 0 + _ + _ ≤ _; omega)
  have cf := Cell.storeRun_facts cd (Int32.ofNat q).toNatClampNeg (cs.stretch (Int32.ofNat o).toNatClampNeg (Int32.ofNat n).toNatClampNeg)
  have cg : ∀ j, (copied cs cd (Int32.ofNat o) (Int32.ofNat q) (Int32.ofNat n)).slots[j]? = if q ≤ j ∧ j < q + n then some (cs.slots.getD (o + (j - q)) .null) else cd.slots[j]? := Jvm.Free.Str.copied_at2 ho hq hn (by omega)
  have K : Keep h (h.setIfInBounds dst (copied cs cd (Int32.ofNat o) (Int32.ofNat q) (Int32.ofNat n))) [dst] := keepSet B1.1 cf.1 cf.2.1 cf.2.2.1
  have sz : (copied cs cd (Int32.ofNat o) (Int32.ofNat q) (Int32.ofNat n)).slots.size = cd.slots.size := cf.2.2.1
  have ival : ∀ j, j < cd.slots.size → ds'.getD j dw = if q ≤ j ∧ j < q + n then vs.getD (o + (j - q)) dv else ds.getD j dw := fun j hj => hds j (by omega)
  have A' : Arv Z (h.setIfInBounds dst (copied cs cd (Int32.ofNat o) (Int32.ofNat q) (Int32.ofNat n))) dst kB .byte z2 ds' dw := by
    refine ⟨_, ⟨by rw [Array.getElem?_setIfInBounds_self_of_lt (Array.getElem?_eq_some_iff.mp B1.1).1], ⟨fun k' => by rw [show (copied cs cd (Int32.ofNat o) (Int32.ofNat q) (Int32.ofNat n)).vm = cd.vm from cf.2.1]; exact B1.2.1.1 k', by rw [show (copied cs cd (Int32.ofNat o) (Int32.ofNat q) (Int32.ofNat n)).cls = cd.cls from cf.1]; exact B1.2.1.2⟩, by rw [show (copied cs cd (Int32.ofNat o) (Int32.ofNat q) (Int32.ofNat n)).vm = cd.vm from cf.2.1]; exact B1.2.2⟩, (show _ = cd.cls from cf.1).trans B2, sz.trans B3, B4, fun j hj => ?_, fun j hj => ?_⟩
    · rw [sz] at hj
      rw [cg, ival j hj]
      by_cases r : q ≤ j ∧ j < q + n
      · rw [if_pos r, if_pos r, src_at _ (by omega)]
      · rw [if_neg r, if_neg r]; exact B5 j hj
    · rw [sz] at hj
      rw [ival j hj]
      by_cases r : q ≤ j ∧ j < q + n
      · rw [if_pos r]; exact A6 _ (by omega)
      · rw [if_neg r]; exact B6 j hj
  refine back_steps st (k _ K A' p e s m args below meth c _ vm0 k0 _ ⟨hx, hby, hml, hret, hlk, hnm, hEL, hw, X', by show T.heap.setIfInBounds _ _ = _; rw [eT], hS, by simpa using hk, hZ, hown, N.app fun y hy => ?_, H.trans (CHr.keep K (fun _ _ => safe_nil hE) H.1), O.keep K (allS hn0 all0), Wm⟩)
  obtain ⟨w, -, rfl⟩ := List.mem_map.mp hy
  exact hn0
end More
end Own
end Jvm.Pilot.@@N@@
namespace Jvm.Pilot.@@N@@
namespace Own
open Jvm Jvm.ClassFile Sem Op Lib Jvm.Free Jvm.Stand Jvm.LawKit Jvm.RoadKit Bundle
/-! ## 6. Numbers -/
/-- a sign from 0 to 255 -/
def b8 (x : Int32) : Prop := ¬ x < 0 ∧ ¬ (255 : Int32) < x
theorem b8_iff (x : Int32) : b8 x ↔ x.toBitVec.toNat < 256 := by
  have h1 : x.toInt = x.toBitVec.toInt := rfl
  have e0 : (0 : Int32).toInt = 0 := rfl
  have e1 : (255 : Int32).toInt = 255 := rfl
  have := x.toBitVec.isLt
  simp only [b8, Int32.lt_iff_toInt_lt, e0, e1, h1, BitVec.toInt_eq_toNat_cond]
  split <;> omega
theorem and_nat (x m : Int32) : (x &&& m).toBitVec.toNat ≤ m.toBitVec.toNat := by
  simp only [Int32.toBitVec_and, BitVec.toNat_and]; exact Nat.and_le_right
theorem ofNat_nat (x : Int32) : x = Int32.ofNat x.toBitVec.toNat := by
  apply Int32.toBitVec_inj.mp
  show _ = BitVec.ofNat 32 _
  rw [BitVec.ofNat_toNat]; simp
theorem andk (x m : Int32) (n : Nat) (hm : m.toBitVec.toNat < n) : ∃ k : Fin n, x &&& m = Int32.ofNat k.val := ⟨⟨_, Nat.lt_of_le_of_lt (and_nat x m) hm⟩, ofNat_nat _⟩
theorem b8_and (x : Int32) : b8 (x &&& 255) := (b8_iff _).mpr (Nat.lt_of_le_of_lt (and_nat x 255) (by decide))
theorem b8_xor {x y : Int32} (hx : b8 x) (hy : b8 y) : b8 (x ^^^ y) := by
  rw [b8_iff] at *
  simp only [Int32.toBitVec_xor, BitVec.toNat_xor]
  exact Nat.xor_lt_two_pow (n := 8) hx hy
theorem b8_cases {x : Int32} (hx : b8 x) : ∃ k : Fin 256, x = Int32.ofNat k.val := ⟨⟨_, (b8_iff x).mp hx⟩, ofNat_nat x⟩
/-- (char) of such a sign is itself -/
theorem b8_c {x : Int32} (hx : b8 x) : x.toUInt32.toUInt16.toUInt32.toInt32 = x := by
  obtain ⟨k, rfl⟩ := b8_cases hx
  clear hx; revert k; decide +kernel
theorem b8_ci {x : Int32} (hx : b8 x) : b8 x.toUInt32.toUInt16.toUInt32.toInt32 := by rw [b8_c hx]; exact hx
theorem nar_b8 {x : Int32} (hx : b8 x) : nar .char x = x := b8_c hx
theorem lat0 : lat [] := fun _ h => nomatch h
theorem latS {c : Int32} {cs : List Int32} (h : b8 c) (r : lat cs) : lat (c :: cs) := fun x hx => (List.mem_cons.mp hx).elim (fun e => e ▸ h) (r x)
theorem nar_z {x : Int32} (h : x = 0 ∨ x = 1) : nar .boolean x = x := by rcases h with rfl | rfl <;> rfl
theorem nar_ite {p : Prop} [Decidable p] : nar .boolean (if p then 1 else 0) = if p then 1 else 0 := by split <;> rfl
theorem narr_z {x : Int32} (h : x = 0 ∨ x = 1) : narrow .boolean (.int x) = .int x := by rcases h with rfl | rfl <;> rfl
theorem fits_z {x : Int32} (h : x = 0 ∨ x = 1) : fits .boolean (.int x) = true := by rcases h with rfl | rfl <;> rfl
theorem fits_r {n : String} {v : Value} (h : v.isRef = true) : fits (.object n) v = true := by rcases ref_cases h with rfl | ⟨a, rfl⟩ <;> rfl
theorem and3 (x : Int32) : x &&& 3 = 0 ∨ x &&& 3 = 1 ∨ x &&& 3 = 2 ∨ x &&& 3 = 3 := by
  obtain ⟨k, e⟩ := andk x 3 4 (by decide); rw [e]; clear e; revert k; decide +kernel
theorem and3rem3 (x : Int32) : (x &&& 3) % 3 = 0 ∨ (x &&& 3) % 3 = 1 ∨ (x &&& 3) % 3 = 2 := by
  obtain ⟨k, e⟩ := andk x 3 4 (by decide); rw [e]; clear e; revert k; decide +kernel
theorem and1 (x : Int32) : x &&& 1 = 0 ∨ x &&& 1 = 1 := by
  obtain ⟨k, e⟩ := andk x 1 2 (by decide); rw [e]; clear e; revert k; decide +kernel
end Own
end Jvm.Pilot.@@N@@
namespace Jvm.Pilot.@@N@@
namespace Own
open Jvm Jvm.ClassFile Sem Op Lib Jvm.Free Jvm.Stand Jvm.LawKit Jvm.RoadKit Bundle
/-- the bytes of a String of signs up to 255 -/
abbrev bys (cs : List Int32) : List Value := (cs.map fun c => c.toInt8.toInt32).map Value.int
def FM (Z : State) : Prop := ∃ v : Value, Sta Z Z.heap "jdk/internal/util/Preconditions" "SIOOBE_FORMATTER" "Ljava/util/function/BiFunction;" v ∧ v.isRef = true
theorem getD_bytes (cs : List Int32) (i : Nat) : (bys cs).getD i (.int 0) = .int ((cs.getD i 0).toInt8.toInt32) := by
  simp only [List.getD_eq_getElem?_getD, List.getElem?_map]
  cases cs[i]? <;> rfl
theorem lat_getD {cs : List Int32} (q : lat cs) (i : Nat) : b8 (cs.getD i 0) := by
  rw [List.getD_eq_getElem?_getD]
  cases e : cs[i]? with
  | none => exact ⟨by decide, by decide⟩
  | some c => exact q c (List.mem_of_getElem? e)
theorem nar_back {c : Int32} (hc : b8 c) : nar .char (c.toInt8.toInt32 &&& 255).toUInt32.toUInt16.toUInt32.toInt32 = c := by
  obtain ⟨k, rfl⟩ := b8_cases hc
  clear hc; revert k; decide +kernel
theorem byte_eq {c : Int32} (hc : b8 c) : c.toInt8.toInt32 = (46 : Int32).toInt8.toInt32 → c = 46 := by
  obtain ⟨k, rfl⟩ := b8_cases hc
  clear hc; revert k; decide +kernel
theorem sub1 (x : Int32) : x - 1 = x + (-1) := by
  exact Int32.sub_eq_add_neg x 1
theorem sub0 (x : Int32) : x - 0 = x := by simp
theorem add0 (x : Int32) : (0 : Int32) + x = x := by simp
theorem i32 {n : Nat} (q : n ≤ 4000) : (Int32.ofNat n).toInt = n := Int32.toInt_ofNat_small (by omega)
theorem clampk {n : Nat} (q : n ≤ 4000) : (Int32.ofNat n).toNatClampNeg = n := Int32.toNatClampNeg_ofNat_of_lt (by omega)
theorem pred1 (k : Nat) : Int32.ofNat (k + 1) + (-1) = Int32.ofNat k := by
  rw [← sub1]
  apply Int32.toBitVec_inj.mp
  show BitVec.ofNat 32 (k + 1) - BitVec.ofNat 32 1 = BitVec.ofNat 32 k
  rw [BitVec.ofNat_add]; exact BitVec.add_sub_cancel _ _
theorem nlt {i n : Nat} (hn : n ≤ 4000) (q : i < n) : ¬ Int32.ofNat i < 0 ∧ Int32.ofNat i < Int32.ofNat n := by
  have e0 : (0 : Int32).toInt = 0 := rfl
  rw [Int32.lt_iff_toInt_lt, Int32.lt_iff_toInt_lt, i32 hn, i32 (by omega), e0]; omega
theorem n0lt {i : Nat} (hn : i ≤ 4000) (q : 0 < i) : (0 : Int32) < Int32.ofNat i := by
  have e0 : (0 : Int32).toInt = 0 := rfl
  rw [Int32.lt_iff_toInt_lt, i32 hn, e0]; omega
theorem ninj {i n : Nat} (hi : i ≤ 4000) (hn : n ≤ 4000) (q : Int32.ofNat i = Int32.ofNat n) : i = n := by
  have := congrArg Int32.toInt q; rw [i32 hi, i32 hn] at this; omega
/-- the last place of '.' among the first k signs, else -1 -/
def li (cs : List Int32) : Nat → Int32
  | 0 => -1
  | k + 1 => if cs.getD k 0 = 46 then Int32.ofNat k else li cs k
theorem li_cases (cs : List Int32) : ∀ k, li cs k = -1 ∨ ∃ m, m < k ∧ li cs k = Int32.ofNat m
  | 0 => Or.inl rfl
  | k + 1 => by
    by_cases q : cs.getD k 0 = 46
    · exact Or.inr ⟨k, Nat.lt_succ_self k, if_pos q⟩
    · have e : li cs (k + 1) = li cs k := if_neg q
      rw [e]
      exact (li_cases cs k).imp id fun ⟨m, h1, h2⟩ => ⟨m, Nat.lt_succ_of_lt h1, h2⟩
theorem li_pos {cs : List Int32} (hl : cs.length ≤ 4000) (q : 0 < li cs cs.length) : ∃ m, 0 < m ∧ m < cs.length ∧ li cs cs.length = Int32.ofNat m := by
  rcases li_cases cs cs.length with e | ⟨m, h1, h2⟩
  · rw [e] at q; exact absurd q (by decide)
  · refine ⟨m, ?_, h1, h2⟩
    rw [h2, Int32.lt_iff_toInt_lt, i32 (by omega)] at q
    have e0 : (0 : Int32).toInt = 0 := rfl
    omega
theorem take_bytes {cs : List Int32} {m j : Nat} (q : j < m) : (bys (cs.take m)).getD j (.int 0) = (bys cs).getD j (.int 0) := by
  rw [getD_bytes, getD_bytes]; simp [List.getD_eq_getElem?_getD, List.getElem?_take, q]
theorem take_getD {cs : List Int32} {m j : Nat} (q : j < m) : (cs.take m).getD j 0 = cs.getD j 0 := by
  simp [List.getD_eq_getElem?_getD, List.getElem?_take, q]
end Own
end Jvm.Pilot.@@N@@
namespace Jvm.Pilot.@@N@@
open Jvm Jvm.ClassFile Sem Op Lib Jvm.Free Jvm.Stand Jvm.LawKit Jvm.RoadKit Bundle Jvm.Pilot.@@N@@.Jvm.D Own
theorem pn0 : plainName "java/lang/String" = true := by first | (simp [plainName, overriddenIn]; done) | decide +kernel
theorem pn1 : plainName "jdk/internal/util/Preconditions" = true := by first | (simp [plainName, overriddenIn]; done) | decide +kernel
theorem pd0 : parseMethodDescriptor "(IILjava/util/function/BiFunction;)I" = some ⟨[.int, .int, .object "java/util/function/BiFunction"], some (.int)⟩ := by decide +kernel
theorem pd1 : parseMethodDescriptor "(II)V" = some ⟨[.int, .int], none⟩ := by decide +kernel
theorem pn2 : plainName "java/lang/StringLatin1" = true := by first | (simp [plainName, overriddenIn]; done) | decide +kernel
theorem pd2 : parseMethodDescriptor "()Z" = some ⟨[], some (.boolean)⟩ := by decide +kernel
theorem pd3 : parseMethodDescriptor "([BI)C" = some ⟨[.array (.byte), .int], some (.char)⟩ := by decide +kernel
theorem pn3 : plainFor ⟨"java/lang/Math", "floorDiv", "(JJ)J"⟩ = true := by decide +kernel
theorem pd4 : parseMethodDescriptor "(JJ)J" = some ⟨[.long, .long], some (.long)⟩ := by decide +kernel
theorem pn4 : plainFor ⟨"java/lang/Math", "floorDiv", "(JI)J"⟩ = true := by decide +kernel
theorem pd5 : parseMethodDescriptor "()I" = some ⟨[], some (.int)⟩ := by decide +kernel
theorem pd6 : parseMethodDescriptor "(I)C" = some ⟨[.int], some (.char)⟩ := by decide +kernel
theorem pd7 : parseMethodDescriptor "(JI)J" = some ⟨[.long, .int], some (.long)⟩ := by decide +kernel
theorem pn5 : plainName "com/example/mynah/mynah/PlainDecimal" = true := by first | (simp [plainName, overriddenIn]; done) | decide +kernel
theorem pd8 : parseMethodDescriptor "(Ljava/lang/String;J)J" = some ⟨[.object "java/lang/String", .long], some (.long)⟩ := by decide +kernel
theorem pn6 : plainName "com/example/mynah/mynah/FeedReader" = true := by first | (simp [plainName, overriddenIn]; done) | decide +kernel
theorem pn7 : plainName "com/example/mynah/mynah/FeedReaderPageSizePinLaw" = true := by first | (simp [plainName, overriddenIn]; done) | decide +kernel
theorem pd9 : parseMethodDescriptor "(JI)C" = some ⟨[.long, .int], some (.char)⟩ := by decide +kernel
theorem pd10 : parseMethodDescriptor "(I)[C" = some ⟨[.int], some (.array (.char))⟩ := by decide +kernel
theorem pd11 : parseMethodDescriptor "(Ljava/lang/String;)I" = some ⟨[.object "java/lang/String"], some (.int)⟩ := by decide +kernel
abbrev consts_1 : List (String × Nat) := []
theorem sw1 : ∀ d ∈ StrChars.Road.words, d ∈ tables_1 := by decide +kernel
theorem swL : ∀ d ∈ StrChars.Road.wordsLen, d ∈ tables_1 := by decide +kernel
theorem addN (a b : Nat) : Int32.ofNat a + Int32.ofNat b = Int32.ofNat (a + b) := by
  apply Int32.toBitVec_inj.mp
  show BitVec.ofNat 32 a + BitVec.ofNat 32 b = BitVec.ofNat 32 (a + b)
  rw [BitVec.ofNat_add]
theorem nbk {n : Nat} (hn : n ≤ 4000) (q : (1 : Int32) < Int32.ofNat n) : 1 < n := by
  have e1 : (1 : Int32).toInt = 1 := rfl
  rw [Int32.lt_iff_toInt_lt, i32 hn, e1] at q; omega
theorem nbk2 {k n : Nat} (hk : k ≤ n) (hn : n ≤ 4000) (q : Int32.ofNat k < Int32.ofNat n) : k < n := by
  rw [Int32.lt_iff_toInt_lt, i32 hn, i32 (by omega)] at q; omega
set_option maxRecDepth 65536 in
set_option maxHeartbeats 4000000 in
theorem islC (l : Launch) (Z : State) (a0 : Array Value) (n0 : Nat) (h : Heap) {EL : List (String × Nat)} (t : Addr) (cs : List Int32) (A : Str Z h t cs) (hCS : CS Z) :
    Ct l Z a0 EL tables_1 [] n0 ⟨"java/lang/String", "isLatin1", "()Z"⟩ jdk_42_method_154_code 1 (some (.boolean)) ({ frames := 0, cells := 0, slots := 0, locals := 0 } : Room) #[.ref t] h (fun v h' => h' = h ∧ v = some (.int 1)) := by
  refine Ct.of_body pn0 (L0 := #[.val (.ref t)]) (fun m => by exact ef_of rfl) (fun hEL hw hO => ?_)
  obtain ⟨z, Sz, hz⟩ := hCS
  refine G.getS (by decide +kernel) (tw 27 rfl) Sz ?_
  refine G.ifeq (o := (14)) (pc' := 17) (by decide +kernel) (by decide) rfl (fun q1 => absurd q1 hz) ?_
  intro _
  refine G.seg [(6, .aload_n 0, 1)] (by decide +kernel) (pc' := 7) (L' := #[.val (.ref t)]) (S' := [.ref t]) rfl ?_
  refine G.getF (by decide +kernel) (tw 39 rfl) A.2.1 ?_
  refine G.ifne (o := (7)) (pc' := 17) (by decide +kernel) (by decide) rfl (fun q2 => absurd rfl q2) ?_
  intro _
  refine G.seg [(13, .iconst 1, 1), (14, .goto 4, 3)] (by decide +kernel) (pc' := 18) (L' := #[.val (.ref t)]) (S' := [.int (1 : Int32)]) rfl ?_
  exact G.retN (by decide +kernel) rfl (Or.inl rfl) rfl ⟨rfl, rfl⟩ (lb rfl) (lb rfl)

set_option maxRecDepth 65536 in
set_option maxHeartbeats 4000000 in
theorem pciC (l : Launch) (Z : State) (a0 : Array Value) (n0 : Nat) (h : Heap) {EL : List (String × Nat)} (i n : Int32) (v : Value) (hv : v.isRef = true) (hi : ¬ i < 0 ∧ i < n) :
    Ct l Z a0 EL tables_1 [] n0 ⟨"jdk/internal/util/Preconditions", "checkIndex", "(IILjava/util/function/BiFunction;)I"⟩ jdk_41_method_11_code 3 (some (.int)) ({ frames := 0, cells := 0, slots := 0, locals := 0 } : Room) #[.int i, .int n, v] h (fun r h' => h' = h ∧ r = some (.int i)) := by
  refine Ct.of_body pn1 (L0 := #[.val (.int i), .val (.int n), .val (v)]) (fun m => by rcases ref_cases hv with rfl | ⟨_, rfl⟩ <;> exact ef_of rfl) (fun hEL hw hO => ?_)
  refine G.seg [(0, .iload_n 0, 1)] (by decide +kernel) (pc' := 1) (L' := #[.val (.int i), .val (.int n), .val (v)]) (S' := [.int i]) rfl ?_
  refine G.iflt (o := (8)) (pc' := 9) (by decide +kernel) (by decide) rfl (fun q1 => absurd q1 hi.1) ?_
  intro _
  refine G.seg [(4, .iload_n 0, 1), (5, .iload_n 1, 1)] (by decide +kernel) (pc' := 6) (L' := #[.val (.int i), .val (.int n), .val (v)]) (S' := [.int n, .int i]) rfl ?_
  refine G.iclt (o := (10)) (pc' := 16) (by decide +kernel) (by decide) rfl ?_ (fun q2 => absurd hi.2 q2)
  intro _
  refine G.seg [(16, .iload_n 0, 1)] (by decide +kernel) (pc' := 17) (L' := #[.val (.int i), .val (.int n), .val (v)]) (S' := [.int i]) rfl ?_
  exact G.retI (by decide +kernel) rfl ⟨rfl, rfl⟩ (lb rfl) (lb rfl)

set_option maxRecDepth 65536 in
set_option maxHeartbeats 4000000 in
theorem ckiC (l : Launch) (Z : State) (a0 : Array Value) (n0 : Nat) (h : Heap) {EL : List (String × Nat)} (i n : Int32) (hi : ¬ i < 0 ∧ i < n) (hFM : FM Z) :
    Ct l Z a0 EL tables_1 [] n0 ⟨"java/lang/String", "checkIndex", "(II)V"⟩ jdk_42_method_155_code 2 (none) ({ frames := 1, cells := 0, slots := 0, locals := 14 } : Room) #[.int i, .int n] h (fun r h' => r = none ∧ h' = h) := by
  refine Ct.of_body pn0 (L0 := #[.val (.int i), .val (.int n)]) (fun m => by exact ef_of rfl) (fun hEL hw hO => ?_)
  refine G.seg [(0, .iload_n 0, 1), (1, .iload_n 1, 1)] (by decide +kernel) (pc' := 2) (L' := #[.val (.int i), .val (.int n)]) (S' := [.int n, .int i]) rfl ?_
  obtain ⟨vF, SF, rF⟩ := hFM
  refine G.getS (by decide +kernel) (tw 78 rfl) SF ?_
  refine G.static (y := ⟨"jdk/internal/util/Preconditions", "checkIndex", "(IILjava/util/function/BiFunction;)I"⟩) (argsL := [.int i, .int n, vF]) (rest := []) (W := 0) (by decide +kernel) (tw 80 rfl) (tw 81 rfl) (tw 79 rfl) (tw 82 rfl) (by decide) ((pciC l Z a0 n0 h i n vF rF hi).pays (tw 82 rfl) (tw 79 rfl) (lb rfl) (lb rfl)) (lenOf pd0 rfl) rfl (Nat.le_of_eq rfl) rfl (lb rfl) (lb rfl) ?_
  rintro _ h1 ⟨rfl, rfl⟩
  refine G.seg [(8, .pop, 1)] (by decide +kernel) (pc' := 9) (L' := #[.val (.int i), .val (.int n)]) (S' := []) rfl ?_
  exact G.retV (by decide +kernel) rfl ⟨rfl, rfl⟩ (lb rfl) (lb rfl)

set_option maxRecDepth 65536 in
set_option maxHeartbeats 4000000 in
theorem lchC (l : Launch) (Z : State) (a0 : Array Value) (n0 : Nat) (h : Heap) {EL : List (String × Nat)} (b : Addr) (kb : ClassId) (cs : List Int32) (i : Int32) (hl : lat cs) (A : Arv Z h b kb .byte (Int32.ofNat cs.length) (bys cs) (.int 0)) (hi : ¬ i < 0 ∧ i < Int32.ofNat cs.length) (hFM : FM Z) :
    Ct l Z a0 EL tables_1 [] n0 ⟨"java/lang/StringLatin1", "charAt", "([BI)C"⟩ jdk_43_method_2_code 2 (some (.char)) ({ frames := 2, cells := 0, slots := 0, locals := 27 } : Room) #[.ref b, .int i] h (fun v h' => h' = h ∧ v = some (.int (cs.getD i.toNatClampNeg 0))) := by
  refine Ct.of_body pn2 (L0 := #[.val (.ref b), .val (.int i)]) (fun m => by exact ef_of rfl) (fun hEL hw hO => ?_)
  refine G.seg [(0, .iload_n 1, 1), (1, .aload_n 0, 1)] (by decide +kernel) (pc' := 2) (L' := #[.val (.ref b), .val (.int i)]) (S' := [.ref b, .int i]) rfl ?_
  refine G.arrlen (by decide +kernel) A ?_
  refine G.static (y := ⟨"java/lang/String", "checkIndex", "(II)V"⟩) (argsL := [.int i, .int (Int32.ofNat cs.length)]) (rest := []) (W := 0) (by decide +kernel) (tw 75 rfl) (tw 76 rfl) (tw 16 rfl) (tw 77 rfl) (by decide) ((ckiC l Z a0 n0 h i (Int32.ofNat cs.length) hi hFM).pays (tw 77 rfl) (tw 16 rfl) (lb rfl) (lb rfl)) (lenOf pd1 rfl) rfl (Nat.le_of_eq rfl) rfl (lb rfl) (lb rfl) ?_
  rintro _ h1 ⟨rfl, rfl⟩
  refine G.seg [(6, .aload_n 0, 1), (7, .iload_n 1, 1)] (by decide +kernel) (pc' := 8) (L' := #[.val (.ref b), .val (.int i)]) (S' := [.int i, .ref b]) rfl ?_
  refine G.baload (by decide +kernel) A hi (getD_bytes cs _) ?_
  refine G.seg [(9, .sipush 255, 3), (12, .iand, 1), (13, .i2c, 1)] (by decide +kernel) (pc' := 14) (L' := #[.val (.ref b), .val (.int i)]) (S' := [.int ((((cs.getD i.toNatClampNeg 0).toInt8.toInt32) &&& (255 : Int32)).toUInt32.toUInt16.toUInt32.toInt32)]) rfl ?_
  exact G.retN (by decide +kernel) rfl (Or.inr (Or.inr (Or.inl rfl))) (nar_back (lat_getD hl _)) ⟨rfl, rfl⟩ (lb rfl) (lb rfl)

set_option maxRecDepth 65536 in
set_option maxHeartbeats 4000000 in
theorem chC (l : Launch) (Z : State) (a0 : Array Value) (n0 : Nat) (h : Heap) {EL : List (String × Nat)} (t : Addr) (cs : List Int32) (i : Int32) (A : Str Z h t cs) (hCS : CS Z) (hi : ¬ i < 0 ∧ i < Int32.ofNat cs.length) (hFM : FM Z) :
    Ct l Z a0 EL tables_1 [] n0 ⟨"java/lang/String", "charAt", "(I)C"⟩ jdk_42_method_56_code 2 (some (.char)) ({ frames := 3, cells := 0, slots := 0, locals := 40 } : Room) #[.ref t, .int i] h (fun v h' => h' = h ∧ v = some (.int (cs.getD i.toNatClampNeg 0))) := by
  refine Ct.of_body pn0 (L0 := #[.val (.ref t), .val (.int i)]) (fun m => by exact ef_of rfl) (fun hEL hw hO => ?_)
  obtain ⟨-, -, hl, -, b, kb, V, B⟩ := id A
  refine G.seg [(0, .aload_n 0, 1)] (by decide +kernel) (pc' := 1) (L' := #[.val (.ref t), .val (.int i)]) (S' := [.ref t]) rfl ?_
  refine G.virtual (y := ⟨"java/lang/String", "isLatin1", "()Z"⟩) (C := "java/lang/String") (a := t) (argsL := []) (rest := []) (W := 0) (by decide +kernel) (tw 66 rfl) (tw 67 rfl) (tw 69 rfl) (tw 68 rfl) (by decide) A.1 ((islC l Z a0 n0 h t cs A hCS).pays (tw 70 rfl) (tw 16 rfl) (lb rfl) (lb rfl)) (lenOf pd2 rfl) rfl (Nat.le_of_eq rfl) rfl (lb rfl) (lb rfl) ?_
  rintro _ h1 ⟨rfl, rfl⟩
  refine G.ifeq (o := (12)) (pc' := 16) (by decide +kernel) (by decide) rfl (fun q2 => absurd q2 (by decide)) ?_
  intro _
  refine G.seg [(7, .aload_n 0, 1)] (by decide +kernel) (pc' := 8) (L' := #[.val (.ref t), .val (.int i)]) (S' := [.ref t]) rfl ?_
  refine G.getF (by decide +kernel) (tw 41 rfl) V ?_
  refine G.seg [(11, .iload_n 1, 1)] (by decide +kernel) (pc' := 12) (L' := #[.val (.ref t), .val (.int i)]) (S' := [.int i, .ref b]) rfl ?_
  refine G.static (y := ⟨"java/lang/StringLatin1", "charAt", "([BI)C"⟩) (argsL := [.ref b, .int i]) (rest := []) (W := 0) (by decide +kernel) (tw 71 rfl) (tw 72 rfl) (tw 73 rfl) (tw 74 rfl) (by decide) ((lchC l Z a0 n0 h1 b kb cs i hl B hi hFM).pays (tw 74 rfl) (tw 73 rfl) (lb rfl) (lb rfl)) (lenOf pd3 rfl) rfl (Nat.le_of_eq rfl) rfl (lb rfl) (lb rfl) ?_
  rintro _ h3 ⟨rfl, rfl⟩
  exact G.retN (by decide +kernel) rfl (Or.inr (Or.inr (Or.inl rfl))) (nar_b8 (lat_getD hl _)) ⟨rfl, rfl⟩ (lb rfl) (lb rfl)

/-- floorDiv by 10, as the code has it -/
def fd10 (x : Int64) : Int64 := if XT.cmpL (x ^^^ (10 : Int32).toInt64) (0 : Int64) < 0 then (if XT.cmpL ((x / (10 : Int32).toInt64) * (10 : Int32).toInt64) x = 0 then x / (10 : Int32).toInt64 else (x / (10 : Int32).toInt64) - (1 : Int64)) else x / (10 : Int32).toInt64
set_option maxRecDepth 65536 in
set_option maxHeartbeats 4000000 in
theorem fdjC (l : Launch) (Z : State) (a0 : Array Value) (n0 : Nat) (h : Heap) {EL : List (String × Nat)} (v : Int64) :
    Ct l Z a0 EL tables_1 [] n0 ⟨"java/lang/Math", "floorDiv", "(JJ)J"⟩ jdk_29_method_49_code 6 (some (.long)) ({ frames := 0, cells := 0, slots := 0, locals := 0 } : Room) #[.long v, .long ((10 : Int32).toInt64)] h (fun r h' => h' = h ∧ r = some (.long (fd10 v))) := by
  refine Ct.of_bodyP pn3 (L0 := #[.val (.long v), .second, .val (.long ((10 : Int32).toInt64)), .second, .unset, .unset]) (fun m => by exact ef_of rfl) (fun hEL hw hO => ?_)
  refine G.seg [(0, .lload_n 0, 1), (1, .lload_n 2, 1), (2, .ldiv, 1), (3, .lstore 4, 2)] (by decide +kernel) (pc' := 5) (L' := #[.val (.long v), .second, .val (.long ((10 : Int32).toInt64)), .second, .val (.long (v / ((10 : Int32).toInt64))), .second]) (S' := []) rfl ?_
  refine G.seg [(5, .lload_n 0, 1), (6, .lload_n 2, 1), (7, .lxor, 1), (8, .lconst 0, 1), (9, .lcmp, 1)] (by decide +kernel) (pc' := 10) (L' := #[.val (.long v), .second, .val (.long ((10 : Int32).toInt64)), .second, .val (.long (v / ((10 : Int32).toInt64))), .second]) (S' := [.int (XT.cmpL (v ^^^ ((10 : Int32).toInt64)) (0 : Int64))]) rfl ?_
  refine G.ifge (o := (17)) (pc' := 27) (by decide +kernel) (by decide) rfl ?_ ?_
  · intro q1
    refine G.seg [(27, .lload 4, 2)] (by decide +kernel) (pc' := 29) (L' := #[.val (.long v), .second, .val (.long ((10 : Int32).toInt64)), .second, .val (.long (v / ((10 : Int32).toInt64))), .second]) (S' := [.long (v / ((10 : Int32).toInt64))]) rfl ?_
    exact G.retJ (by decide +kernel) rfl ⟨rfl, by rw [fd10, if_neg q1]⟩ (lb rfl) (lb rfl)
  · intro q1
    refine G.seg [(13, .lload 4, 2), (15, .lload_n 2, 1), (16, .lmul, 1), (17, .lload_n 0, 1), (18, .lcmp, 1)] (by decide +kernel) (pc' := 19) (L' := #[.val (.long v), .second, .val (.long ((10 : Int32).toInt64)), .second, .val (.long (v / ((10 : Int32).toInt64))), .second]) (S' := [.int (XT.cmpL ((v / ((10 : Int32).toInt64)) * ((10 : Int32).toInt64)) v)]) rfl ?_
    refine G.ifeq (o := (8)) (pc' := 27) (by decide +kernel) (by decide) rfl ?_ ?_
    · intro q2
      refine G.seg [(27, .lload 4, 2)] (by decide +kernel) (pc' := 29) (L' := #[.val (.long v), .second, .val (.long ((10 : Int32).toInt64)), .second, .val (.long (v / ((10 : Int32).toInt64))), .second]) (S' := [.long (v / ((10 : Int32).toInt64))]) rfl ?_
      exact G.retJ (by decide +kernel) rfl ⟨rfl, by rw [fd10, if_pos q1, if_pos q2]⟩ (lb rfl) (lb rfl)
    · intro q2
      refine G.seg [(22, .lload 4, 2), (24, .lconst 1, 1), (25, .lsub, 1)] (by decide +kernel) (pc' := 26) (L' := #[.val (.long v), .second, .val (.long ((10 : Int32).toInt64)), .second, .val (.long (v / ((10 : Int32).toInt64))), .second]) (S' := [.long ((v / ((10 : Int32).toInt64)) - (1 : Int64))]) rfl ?_
      exact G.retJ (by decide +kernel) rfl ⟨rfl, by rw [fd10, if_pos q1, if_neg q2]⟩ (lb rfl) (lb rfl)

set_option maxRecDepth 65536 in
set_option maxHeartbeats 4000000 in
theorem fdiC (l : Launch) (Z : State) (a0 : Array Value) (n0 : Nat) (h : Heap) {EL : List (String × Nat)} (v : Int64) :
    Ct l Z a0 EL tables_1 [] n0 ⟨"java/lang/Math", "floorDiv", "(JI)J"⟩ jdk_29_method_48_code 3 (some (.long)) ({ frames := 1, cells := 0, slots := 0, locals := 17 } : Room) #[.long v, .int (10 : Int32)] h (fun r h' => h' = h ∧ r = some (.long (fd10 v))) := by
  refine Ct.of_bodyP pn4 (L0 := #[.val (.long v), .second, .val (.int (10 : Int32))]) (fun m => by exact ef_of rfl) (fun hEL hw hO => ?_)
  refine G.seg [(0, .lload_n 0, 1), (1, .iload_n 2, 1), (2, .i2l, 1)] (by decide +kernel) (pc' := 3) (L' := #[.val (.long v), .second, .val (.int (10 : Int32))]) (S' := [.long ((10 : Int32).toInt64), .long v]) rfl ?_
  refine G.static (y := ⟨"java/lang/Math", "floorDiv", "(JJ)J"⟩) (argsL := [.long v, .long ((10 : Int32).toInt64)]) (rest := []) (W := 0) (by decide +kernel) (tw 87 rfl) (tw 88 rfl) (tw 85 rfl) (tw 89 rfl) (by decide) ((fdjC l Z a0 n0 h v).pays (tw 89 rfl) (tw 85 rfl) (lb rfl) (lb rfl)) (lenOf pd4 rfl) rfl (Nat.le_of_eq rfl) rfl (lb rfl) (lb rfl) ?_
  rintro _ h1 ⟨rfl, rfl⟩
  exact G.retJ (by decide +kernel) rfl ⟨rfl, rfl⟩ (lb rfl) (lb rfl)

def nx (mx v : Int64) (o c : Int32) : Int32 := if ¬ (o = 0) ∨ 0 < XT.cmpL v (fd10 (mx - (c - (48 : Int32)).toInt64)) then 1 else 0
/-- the loop of read, as the code has it -/
def rdF (mx : Int64) : List Int32 → Int64 → Int32 → Int64
  | [], v, o => if o = 0 then v else -2
  | c :: cs, v, o => if c < 48 ∨ 57 < c then -1 else rdF mx cs (if nx mx v o c = 0 then (v * (10 : Int64)) + (c - (48 : Int32)).toInt64 else v) (nx mx v o c)
def readF (mx : Int64) (cs : List Int32) : Int64 := if cs.length = 0 then -1 else if cs.getD 0 0 = 48 ∧ 1 < cs.length then -1 else rdF mx cs 0 0
theorem drop_cons {cs : List Int32} {k : Nat} (q : k < cs.length) : cs.drop k = cs.getD k 0 :: cs.drop (k + 1) := by
  rw [List.drop_eq_getElem_cons q]; simp [List.getD_eq_getElem?_getD, q]
set_option maxRecDepth 65536 in
set_option maxHeartbeats 4000000 in
theorem readC (l : Launch) (Z : State) (a0 : Array Value) (n0 : Nat) (h : Heap) {EL : List (String × Nat)} (t : Addr) (cs : List Int32) (mx : Int64) (A : Str Z h t cs) (hCS : CS Z) (hFM : FM Z) :
    Ct l Z a0 EL tables_1 [] n0 ⟨"com/example/mynah/mynah/PlainDecimal", "read", "(Ljava/lang/String;J)J"⟩ prog_21_method_4_code 10 (some (.long)) ({ frames := 4, cells := 0, slots := 0, locals := 90 } : Room) #[.ref t, .long mx] h (fun r h' => h' = h ∧ r = some (.long (readF mx cs))) := by
  refine Ct.of_body pn5 (L0 := #[.val (.ref t), .val (.long mx), .second, .unset, .unset, .unset, .unset, .unset, .unset, .unset]) (fun m => by exact ef_of rfl) (fun hEL hw hO => ?_)
  obtain ⟨-, -, hl, hle, -⟩ := id A
  refine G.seg [(0, .aload_n 0, 1)] (by decide +kernel) (pc' := 1) (L' := #[.val (.ref t), .val (.long mx), .second, .unset, .unset, .unset, .unset, .unset, .unset, .unset]) (S' := [.ref t]) rfl ?_
  refine G.virtual (y := ⟨"java/lang/String", "length", "()I"⟩) (C := "java/lang/String") (a := t) (argsL := []) (rest := []) (W := 0) (by decide +kernel) (tw 51 rfl) (tw 52 rfl) (tw 54 rfl) (tw 53 rfl) (by decide) A.1 (lenB swL (tw 15 rfl) A hCS (lb rfl) (lb rfl)) (lenOf pd5 rfl) rfl (Nat.le_of_eq rfl) rfl (lb rfl) (lb rfl) ?_
  rintro _ h1 ⟨rfl, rfl⟩
  refine G.seg [(4, .istore_n 3, 1)] (by decide +kernel) (pc' := 5) (L' := #[.val (.ref t), .val (.long mx), .second, .val (.int (Int32.ofNat cs.length)), .unset, .unset, .unset, .unset, .unset, .unset]) (S' := []) rfl ?_
  refine G.seg [(5, .iload_n 3, 1)] (by decide +kernel) (pc' := 6) (L' := #[.val (.ref t), .val (.long mx), .second, .val (.int (Int32.ofNat cs.length)), .unset, .unset, .unset, .unset, .unset, .unset]) (S' := [.int (Int32.ofNat cs.length)]) rfl ?_
  refine G.ifeq (o := (18)) (pc' := 24) (by decide +kernel) (by decide) rfl ?_ ?_
  · intro q2
    have e0 : cs.length = 0 := ninj hle (by decide) q2
    refine G.ldcJ (by decide +kernel) (tw 92 rfl) ?_
    exact G.retJ (by decide +kernel) rfl ⟨rfl, by rw [readF, if_pos e0]⟩ (lb rfl) (lb rfl)
  · intro q2
    have e0 : ¬ cs.length = 0 := fun z => q2 (by rw [z]; rfl)
    have e1 : 0 < cs.length := Nat.pos_of_ne_zero e0
    refine G.seg [(9, .aload_n 0, 1), (10, .iconst 0, 1)] (by decide +kernel) (pc' := 11) (L' := #[.val (.ref t), .val (.long mx), .second, .val (.int (Int32.ofNat cs.length)), .unset, .unset, .unset, .unset, .unset, .unset]) (S' := [.int (0 : Int32), .ref t]) rfl ?_
    refine G.virtual (y := ⟨"java/lang/String", "charAt", "(I)C"⟩) (C := "java/lang/String") (a := t) (argsL := [.int (0 : Int32)]) (rest := []) (W := 0) (by decide +kernel) (tw 61 rfl) (tw 62 rfl) (tw 64 rfl) (tw 63 rfl) (by decide) A.1 ((chC l Z a0 n0 h1 t cs (0 : Int32) A hCS (nlt hle e1) hFM).pays (tw 65 rfl) (tw 16 rfl) (lb rfl) (lb rfl)) (lenOf pd6 rfl) rfl (Nat.le_of_eq rfl) rfl (lb rfl) (lb rfl) ?_
    rintro _ h3 ⟨rfl, rfl⟩
    refine G.seg [(14, .bipush 48, 2)] (by decide +kernel) (pc' := 16) (L' := #[.val (.ref t), .val (.long mx), .second, .val (.int (Int32.ofNat cs.length)), .unset, .unset, .unset, .unset, .unset, .unset]) (S' := [.int (48 : Int32), .int (cs.getD (0 : Int32).toNatClampNeg 0)]) rfl ?_
    refine G.join (fun _ : Unit => ¬ (cs.getD 0 0 = 48 ∧ 1 < cs.length)) (fun _ => (h3, 0, 0, 28, #[.val (.ref t), .val (.long mx), .second, .val (.int (Int32.ofNat cs.length)), .unset, .unset, .unset, .unset, .unset, .unset], [])) ?_ ?_
    · intro J
      refine G.icne (o := (12)) (pc' := 28) (by decide +kernel) (by decide) rfl ?_ ?_
      · intro q4
        exact J () (fun z => q4 z.1)
      · intro q4
        refine G.seg [(19, .iload_n 3, 1), (20, .iconst 1, 1)] (by decide +kernel) (pc' := 21) (L' := #[.val (.ref t), .val (.long mx), .second, .val (.int (Int32.ofNat cs.length)), .unset, .unset, .unset, .unset, .unset, .unset]) (S' := [.int (1 : Int32), .int (Int32.ofNat cs.length)]) rfl ?_
        refine G.icle (o := (7)) (pc' := 28) (by decide +kernel) (by decide) rfl ?_ ?_
        · intro q5
          exact J () (fun z => absurd (nlt hle z.2).2 q5)
        · intro q5
          refine G.ldcJ (by decide +kernel) (tw 92 rfl) ?_
          exact G.retJ (by decide +kernel) rfl ⟨rfl, by rw [readF, if_neg e0, if_pos ⟨q4, (nbk hle q5)⟩]⟩ (lb rfl) (lb rfl)
    rintro _ hz0
    dsimp only
    have er : readF mx cs = rdF mx cs 0 0 := by rw [readF, if_neg e0, if_neg hz0]
    rw [er]
    refine G.seg [(28, .lconst 0, 1), (29, .lstore 4, 2)] (by decide +kernel) (pc' := 31) (L' := #[.val (.ref t), .val (.long mx), .second, .val (.int (Int32.ofNat cs.length)), .val (.long (0 : Int64)), .second, .unset, .unset, .unset, .unset]) (S' := []) rfl ?_
    refine G.seg [(31, .iconst 0, 1), (32, .istore 6, 2)] (by decide +kernel) (pc' := 34) (L' := #[.val (.ref t), .val (.long mx), .second, .val (.int (Int32.ofNat cs.length)), .val (.long (0 : Int64)), .second, .val (.int (0 : Int32)), .unset, .unset, .unset]) (S' := []) rfl ?_
    refine G.seg [(34, .iconst 0, 1), (35, .istore 7, 2)] (by decide +kernel) (pc' := 37) (L' := #[.val (.ref t), .val (.long mx), .second, .val (.int (Int32.ofNat cs.length)), .val (.long (0 : Int64)), .second, .val (.int (0 : Int32)), .val (.int (0 : Int32)), .unset, .unset]) (S' := []) rfl ?_
    refine G.loop (fun z : Nat × Int64 × Int32 × Option (Int32 × Int32) => cs.length - z.1) (fun z => z.1 ≤ cs.length ∧ rdF mx (cs.drop z.1) z.2.1 z.2.2.1 = rdF mx cs 0 0) (fun z => (h3, 0, 0, 37, #[.val (.ref t), .val (.long mx), .second, .val (.int (Int32.ofNat cs.length)), .val (.long z.2.1), .second, .val (.int z.2.2.1), .val (.int (Int32.ofNat z.1)), (match z.2.2.2 with | none => Slot.unset | some q => .val (.int q.1)), (match z.2.2.2 with | none => Slot.unset | some q => .val (.int q.2))], [])) (0, 0, 0, none) rfl ⟨Nat.zero_le _, rfl⟩ ?_
    rintro ⟨k, v, o, (_ | ⟨u1, u2⟩)⟩ ⟨hk, ek⟩ ih
    · dsimp only at hk ek ih ⊢
      refine G.seg [(37, .iload 7, 2), (39, .iload_n 3, 1)] (by decide +kernel) (pc' := 40) (L' := #[.val (.ref t), .val (.long mx), .second, .val (.int (Int32.ofNat cs.length)), .val (.long v), .second, .val (.int o), .val (.int (Int32.ofNat k)), .unset, .unset]) (S' := [.int (Int32.ofNat cs.length), .int (Int32.ofNat k)]) rfl ?_
      refine G.icge (o := (87)) (pc' := 127) (by decide +kernel) (by decide) rfl ?_ ?_
      · intro q6
        have e2 : k = cs.length := Nat.le_antisymm hk (Nat.le_of_not_lt fun z => q6 (nlt hle z).2)
        rw [e2, List.drop_length] at ek
        refine G.seg [(127, .iload 6, 2)] (by decide +kernel) (pc' := 129) (L' := #[.val (.ref t), .val (.long mx), .second, .val (.int (Int32.ofNat cs.length)), .val (.long v), .second, .val (.int o), .val (.int (Int32.ofNat k)), .unset, .unset]) (S' := [.int o]) rfl ?_
        refine G.ifeq (o := (9)) (pc' := 138) (by decide +kernel) (by decide) rfl ?_ ?_
        · intro q7
          refine G.seg [(138, .lload 4, 2)] (by decide +kernel) (pc' := 140) (L' := #[.val (.ref t), .val (.long mx), .second, .val (.int (Int32.ofNat cs.length)), .val (.long v), .second, .val (.int o), .val (.int (Int32.ofNat k)), .unset, .unset]) (S' := [.long v]) rfl ?_
          exact G.retJ (by decide +kernel) rfl ⟨rfl, by rw [← ek, rdF, if_pos q7]⟩ (lb rfl) (lb rfl)
        · intro q7
          refine G.ldcJ (by decide +kernel) (tw 91 rfl) ?_
          refine G.seg [(135, .goto 5, 3)] (by decide +kernel) (pc' := 140) (L' := #[.val (.ref t), .val (.long mx), .second, .val (.int (Int32.ofNat cs.length)), .val (.long v), .second, .val (.int o), .val (.int (Int32.ofNat k)), .unset, .unset]) (S' := [.long (-2 : Int64)]) rfl ?_
          exact G.retJ (by decide +kernel) rfl ⟨rfl, by rw [← ek, rdF, if_neg q7]⟩ (lb rfl) (lb rfl)
      · intro q6
        have hk2 : k < cs.length := nbk2 hk hle q6
        rw [drop_cons hk2, rdF] at ek
        refine G.seg [(43, .aload_n 0, 1), (44, .iload 7, 2)] (by decide +kernel) (pc' := 46) (L' := #[.val (.ref t), .val (.long mx), .second, .val (.int (Int32.ofNat cs.length)), .val (.long v), .second, .val (.int o), .val (.int (Int32.ofNat k)), .unset, .unset]) (S' := [.int (Int32.ofNat k), .ref t]) rfl ?_
        refine G.virtual (y := ⟨"java/lang/String", "charAt", "(I)C"⟩) (C := "java/lang/String") (a := t) (argsL := [.int (Int32.ofNat k)]) (rest := []) (W := 0) (by decide +kernel) (tw 61 rfl) (tw 62 rfl) (tw 64 rfl) (tw 63 rfl) (by decide) A.1 ((chC l Z a0 n0 h3 t cs (Int32.ofNat k) A hCS (nlt hle hk2) hFM).pays (tw 65 rfl) (tw 16 rfl) (lb rfl) (lb rfl)) (lenOf pd6 rfl) rfl (Nat.le_of_eq rfl) rfl (lb rfl) (lb rfl) ?_
        rintro _ h8 ⟨rfl, rfl⟩
        rw [clampk (by omega)]
        generalize cs.getD k 0 = c at ek ⊢
        refine G.seg [(49, .istore 8, 2)] (by decide +kernel) (pc' := 51) (L' := #[.val (.ref t), .val (.long mx), .second, .val (.int (Int32.ofNat cs.length)), .val (.long v), .second, .val (.int o), .val (.int (Int32.ofNat k)), .val (.int c), .unset]) (S' := []) rfl ?_
        refine G.seg [(51, .iload 8, 2), (53, .bipush 48, 2)] (by decide +kernel) (pc' := 55) (L' := #[.val (.ref t), .val (.long mx), .second, .val (.int (Int32.ofNat cs.length)), .val (.long v), .second, .val (.int o), .val (.int (Int32.ofNat k)), .val (.int c), .unset]) (S' := [.int (48 : Int32), .int c]) rfl ?_
        refine G.join (fun _ : Unit => ¬ (c < 48 ∨ 57 < c)) (fun _ => (h8, 0, 0, 69, #[.val (.ref t), .val (.long mx), .second, .val (.int (Int32.ofNat cs.length)), .val (.long v), .second, .val (.int o), .val (.int (Int32.ofNat k)), .val (.int c), .unset], [])) ?_ ?_
        · intro J
          refine G.iclt (o := (10)) (pc' := 65) (by decide +kernel) (by decide) rfl ?_ ?_
          · intro q9
            refine G.ldcJ (by decide +kernel) (tw 92 rfl) ?_
            exact G.retJ (by decide +kernel) rfl ⟨rfl, by rw [← ek, if_pos (Or.inl q9)]⟩ (lb rfl) (lb rfl)
          · intro q9
            refine G.seg [(58, .iload 8, 2), (60, .bipush 57, 2)] (by decide +kernel) (pc' := 62) (L' := #[.val (.ref t), .val (.long mx), .second, .val (.int (Int32.ofNat cs.length)), .val (.long v), .second, .val (.int o), .val (.int (Int32.ofNat k)), .val (.int c), .unset]) (S' := [.int (57 : Int32), .int c]) rfl ?_
            refine G.icle (o := (7)) (pc' := 69) (by decide +kernel) (by decide) rfl ?_ ?_
            · intro q10
              exact J () (fun z => z.elim q9 q10)
            · intro q10
              refine G.ldcJ (by decide +kernel) (tw 92 rfl) ?_
              exact G.retJ (by decide +kernel) rfl ⟨rfl, by rw [← ek, if_pos (Or.inr q10)]⟩ (lb rfl) (lb rfl)
        rintro _ hd
        dsimp only
        rw [if_neg hd] at ek
        refine G.seg [(69, .iload 8, 2), (71, .bipush 48, 2), (73, .isub, 1), (74, .istore 9, 2)] (by decide +kernel) (pc' := 76) (L' := #[.val (.ref t), .val (.long mx), .second, .val (.int (Int32.ofNat cs.length)), .val (.long v), .second, .val (.int o), .val (.int (Int32.ofNat k)), .val (.int c), .val (.int (c - (48 : Int32)))]) (S' := []) rfl ?_
        refine G.seg [(76, .iload 6, 2)] (by decide +kernel) (pc' := 78) (L' := #[.val (.ref t), .val (.long mx), .second, .val (.int (Int32.ofNat cs.length)), .val (.long v), .second, .val (.int o), .val (.int (Int32.ofNat k)), .val (.int c), .val (.int (c - (48 : Int32)))]) (S' := [.int o]) rfl ?_
        refine G.join (fun o2 : Int32 => o2 = nx mx v o c) (fun o2 => (h8, 0, 0, 102, #[.val (.ref t), .val (.long mx), .second, .val (.int (Int32.ofNat cs.length)), .val (.long v), .second, .val (.int o), .val (.int (Int32.ofNat k)), .val (.int c), .val (.int (c - (48 : Int32)))], [.int o2])) ?_ ?_
        · intro J
          refine G.ifne (o := (19)) (pc' := 97) (by decide +kernel) (by decide) rfl ?_ ?_
          · intro q11
            refine G.seg [(97, .iconst 1, 1), (98, .goto 4, 3)] (by decide +kernel) (pc' := 102) (L' := #[.val (.ref t), .val (.long mx), .second, .val (.int (Int32.ofNat cs.length)), .val (.long v), .second, .val (.int o), .val (.int (Int32.ofNat k)), .val (.int c), .val (.int (c - (48 : Int32)))]) (S' := [.int (1 : Int32)]) rfl ?_
            exact J 1 (by rw [nx, if_pos (Or.inl q11)])
          · intro q11
            refine G.seg [(81, .lload 4, 2), (83, .lload_n 1, 1), (84, .iload 9, 2), (86, .i2l, 1), (87, .lsub, 1), (88, .bipush 10, 2)] (by decide +kernel) (pc' := 90) (L' := #[.val (.ref t), .val (.long mx), .second, .val (.int (Int32.ofNat cs.length)), .val (.long v), .second, .val (.int o), .val (.int (Int32.ofNat k)), .val (.int c), .val (.int (c - (48 : Int32)))]) (S' := [.int (10 : Int32), .long (mx - ((c - (48 : Int32)).toInt64)), .long v]) rfl ?_
            refine G.static (y := ⟨"java/lang/Math", "floorDiv", "(JI)J"⟩) (argsL := [.long (mx - ((c - (48 : Int32)).toInt64)), .int (10 : Int32)]) (rest := [.long v]) (W := 2) (by decide +kernel) (tw 83 rfl) (tw 84 rfl) (tw 85 rfl) (tw 86 rfl) (by decide) ((fdiC l Z a0 n0 h8 (mx - (c - (48 : Int32)).toInt64)).pays (tw 86 rfl) (tw 85 rfl) (lb rfl) (lb rfl)) (lenOf pd7 rfl) rfl (Nat.le_of_eq rfl) rfl (lb rfl) (lb rfl) ?_
            rintro _ h12 ⟨rfl, rfl⟩
            refine G.seg [(93, .lcmp, 1)] (by decide +kernel) (pc' := 94) (L' := #[.val (.ref t), .val (.long mx), .second, .val (.int (Int32.ofNat cs.length)), .val (.long v), .second, .val (.int o), .val (.int (Int32.ofNat k)), .val (.int c), .val (.int (c - (48 : Int32)))]) (S' := [.int (XT.cmpL v (fd10 (mx - (c - (48 : Int32)).toInt64)))]) rfl ?_
            refine G.ifle (o := (7)) (pc' := 101) (by decide +kernel) (by decide) rfl ?_ ?_
            · intro q13
              refine G.seg [(101, .iconst 0, 1)] (by decide +kernel) (pc' := 102) (L' := #[.val (.ref t), .val (.long mx), .second, .val (.int (Int32.ofNat cs.length)), .val (.long v), .second, .val (.int o), .val (.int (Int32.ofNat k)), .val (.int c), .val (.int (c - (48 : Int32)))]) (S' := [.int (0 : Int32)]) rfl ?_
              exact J 0 (by rw [nx, if_neg (fun z => z.elim (fun z => z q11) q13)])
            · intro q13
              refine G.seg [(97, .iconst 1, 1), (98, .goto 4, 3)] (by decide +kernel) (pc' := 102) (L' := #[.val (.ref t), .val (.long mx), .second, .val (.int (Int32.ofNat cs.length)), .val (.long v), .second, .val (.int o), .val (.int (Int32.ofNat k)), .val (.int c), .val (.int (c - (48 : Int32)))]) (S' := [.int (1 : Int32)]) rfl ?_
              exact J 1 (by rw [nx, if_pos (Or.inr q13)])
        rintro o2 eo
        dsimp only
        rw [← eo] at ek
        refine G.seg [(102, .istore 6, 2)] (by decide +kernel) (pc' := 104) (L' := #[.val (.ref t), .val (.long mx), .second, .val (.int (Int32.ofNat cs.length)), .val (.long v), .second, .val (.int o2), .val (.int (Int32.ofNat k)), .val (.int c), .val (.int (c - (48 : Int32)))]) (S' := []) rfl ?_
        refine G.seg [(104, .iload 6, 2)] (by decide +kernel) (pc' := 106) (L' := #[.val (.ref t), .val (.long mx), .second, .val (.int (Int32.ofNat cs.length)), .val (.long v), .second, .val (.int o2), .val (.int (Int32.ofNat k)), .val (.int c), .val (.int (c - (48 : Int32)))]) (S' := [.int o2]) rfl ?_
        refine G.ifne (o := (15)) (pc' := 121) (by decide +kernel) (by decide) rfl ?_ ?_
        · intro q14
          rw [if_neg q14] at ek
          refine G.seg [(121, .iinc 7 1, 3)] (by decide +kernel) (pc' := 124) (L' := #[.val (.ref t), .val (.long mx), .second, .val (.int (Int32.ofNat cs.length)), .val (.long v), .second, .val (.int o2), .val (.int ((Int32.ofNat k) + (1 : Int32))), .val (.int c), .val (.int (c - (48 : Int32)))]) (S' := []) rfl ?_
          refine G.seg [(124, .goto (-87), 3)] (by decide +kernel) (pc' := 37) (L' := #[.val (.ref t), .val (.long mx), .second, .val (.int (Int32.ofNat cs.length)), .val (.long v), .second, .val (.int o2), .val (.int ((Int32.ofNat k) + (1 : Int32))), .val (.int c), .val (.int (c - (48 : Int32)))]) (S' := []) rfl ?_
          rw [show Int32.ofNat k + (1 : Int32) = Int32.ofNat (k + 1) from addN k 1]
          exact ih (k + 1, v, o2, some (c, c - (48 : Int32))) ⟨hk2, ek⟩ (by dsimp only; omega)
        · intro q14
          rw [if_pos q14] at ek
          refine G.seg [(109, .lload 4, 2)] (by decide +kernel) (pc' := 111) (L' := #[.val (.ref t), .val (.long mx), .second, .val (.int (Int32.ofNat cs.length)), .val (.long v), .second, .val (.int o2), .val (.int (Int32.ofNat k)), .val (.int c), .val (.int (c - (48 : Int32)))]) (S' := [.long v]) rfl ?_
          refine G.ldcJ (by decide +kernel) (tw 90 rfl) ?_
          refine G.seg [(114, .lmul, 1), (115, .iload 9, 2), (117, .i2l, 1), (118, .ladd, 1), (119, .lstore 4, 2)] (by decide +kernel) (pc' := 121) (L' := #[.val (.ref t), .val (.long mx), .second, .val (.int (Int32.ofNat cs.length)), .val (.long ((v * (10 : Int64)) + ((c - (48 : Int32)).toInt64))), .second, .val (.int o2), .val (.int (Int32.ofNat k)), .val (.int c), .val (.int (c - (48 : Int32)))]) (S' := []) rfl ?_
          refine G.seg [(121, .iinc 7 1, 3)] (by decide +kernel) (pc' := 124) (L' := #[.val (.ref t), .val (.long mx), .second, .val (.int (Int32.ofNat cs.length)), .val (.long ((v * (10 : Int64)) + ((c - (48 : Int32)).toInt64))), .second, .val (.int o2), .val (.int ((Int32.ofNat k) + (1 : Int32))), .val (.int c), .val (.int (c - (48 : Int32)))]) (S' := []) rfl ?_
          refine G.seg [(124, .goto (-87), 3)] (by decide +kernel) (pc' := 37) (L' := #[.val (.ref t), .val (.long mx), .second, .val (.int (Int32.ofNat cs.length)), .val (.long ((v * (10 : Int64)) + ((c - (48 : Int32)).toInt64))), .second, .val (.int o2), .val (.int ((Int32.ofNat k) + (1 : Int32))), .val (.int c), .val (.int (c - (48 : Int32)))]) (S' := []) rfl ?_
          rw [show Int32.ofNat k + (1 : Int32) = Int32.ofNat (k + 1) from addN k 1]
          exact ih (k + 1, (v * (10 : Int64)) + (c - (48 : Int32)).toInt64, o2, some (c, c - (48 : Int32))) ⟨hk2, ek⟩ (by dsimp only; omega)
    · dsimp only at hk ek ih ⊢
      refine G.seg [(37, .iload 7, 2), (39, .iload_n 3, 1)] (by decide +kernel) (pc' := 40) (L' := #[.val (.ref t), .val (.long mx), .second, .val (.int (Int32.ofNat cs.length)), .val (.long v), .second, .val (.int o), .val (.int (Int32.ofNat k)), .val (.int u1), .val (.int u2)]) (S' := [.int (Int32.ofNat cs.length), .int (Int32.ofNat k)]) rfl ?_
      refine G.icge (o := (87)) (pc' := 127) (by decide +kernel) (by decide) rfl ?_ ?_
      · intro q15
        have e2 : k = cs.length := Nat.le_antisymm hk (Nat.le_of_not_lt fun z => q15 (nlt hle z).2)
        rw [e2, List.drop_length] at ek
        refine G.seg [(127, .iload 6, 2)] (by decide +kernel) (pc' := 129) (L' := #[.val (.ref t), .val (.long mx), .second, .val (.int (Int32.ofNat cs.length)), .val (.long v), .second, .val (.int o), .val (.int (Int32.ofNat k)), .val (.int u1), .val (.int u2)]) (S' := [.int o]) rfl ?_
        refine G.ifeq (o := (9)) (pc' := 138) (by decide +kernel) (by decide) rfl ?_ ?_
        · intro q16
          refine G.seg [(138, .lload 4, 2)] (by decide +kernel) (pc' := 140) (L' := #[.val (.ref t), .val (.long mx), .second, .val (.int (Int32.ofNat cs.length)), .val (.long v), .second, .val (.int o), .val (.int (Int32.ofNat k)), .val (.int u1), .val (.int u2)]) (S' := [.long v]) rfl ?_
          exact G.retJ (by decide +kernel) rfl ⟨rfl, by rw [← ek, rdF, if_pos q16]⟩ (lb rfl) (lb rfl)
        · intro q16
          refine G.ldcJ (by decide +kernel) (tw 91 rfl) ?_
          refine G.seg [(135, .goto 5, 3)] (by decide +kernel) (pc' := 140) (L' := #[.val (.ref t), .val (.long mx), .second, .val (.int (Int32.ofNat cs.length)), .val (.long v), .second, .val (.int o), .val (.int (Int32.ofNat k)), .val (.int u1), .val (.int u2)]) (S' := [.long (-2 : Int64)]) rfl ?_
          exact G.retJ (by decide +kernel) rfl ⟨rfl, by rw [← ek, rdF, if_neg q16]⟩ (lb rfl) (lb rfl)
      · intro q15
        have hk2 : k < cs.length := nbk2 hk hle q15
        rw [drop_cons hk2, rdF] at ek
        refine G.seg [(43, .aload_n 0, 1), (44, .iload 7, 2)] (by decide +kernel) (pc' := 46) (L' := #[.val (.ref t), .val (.long mx), .second, .val (.int (Int32.ofNat cs.length)), .val (.long v), .second, .val (.int o), .val (.int (Int32.ofNat k)), .val (.int u1), .val (.int u2)]) (S' := [.int (Int32.ofNat k), .ref t]) rfl ?_
        refine G.virtual (y := ⟨"java/lang/String", "charAt", "(I)C"⟩) (C := "java/lang/String") (a := t) (argsL := [.int (Int32.ofNat k)]) (rest := []) (W := 0) (by decide +kernel) (tw 61 rfl) (tw 62 rfl) (tw 64 rfl) (tw 63 rfl) (by decide) A.1 ((chC l Z a0 n0 h3 t cs (Int32.ofNat k) A hCS (nlt hle hk2) hFM).pays (tw 65 rfl) (tw 16 rfl) (lb rfl) (lb rfl)) (lenOf pd6 rfl) rfl (Nat.le_of_eq rfl) rfl (lb rfl) (lb rfl) ?_
        rintro _ h17 ⟨rfl, rfl⟩
        rw [clampk (by omega)]
        generalize cs.getD k 0 = c at ek ⊢
        refine G.seg [(49, .istore 8, 2)] (by decide +kernel) (pc' := 51) (L' := #[.val (.ref t), .val (.long mx), .second, .val (.int (Int32.ofNat cs.length)), .val (.long v), .second, .val (.int o), .val (.int (Int32.ofNat k)), .val (.int c), .val (.int u2)]) (S' := []) rfl ?_
        refine G.seg [(51, .iload 8, 2), (53, .bipush 48, 2)] (by decide +kernel) (pc' := 55) (L' := #[.val (.ref t), .val (.long mx), .second, .val (.int (Int32.ofNat cs.length)), .val (.long v), .second, .val (.int o), .val (.int (Int32.ofNat k)), .val (.int c), .val (.int u2)]) (S' := [.int (48 : Int32), .int c]) rfl ?_
        refine G.join (fun _ : Unit => ¬ (c < 48 ∨ 57 < c)) (fun _ => (h17, 0, 0, 69, #[.val (.ref t), .val (.long mx), .second, .val (.int (Int32.ofNat cs.length)), .val (.long v), .second, .val (.int o), .val (.int (Int32.ofNat k)), .val (.int c), .val (.int u2)], [])) ?_ ?_
        · intro J
          refine G.iclt (o := (10)) (pc' := 65) (by decide +kernel) (by decide) rfl ?_ ?_
          · intro q18
            refine G.ldcJ (by decide +kernel) (tw 92 rfl) ?_
            exact G.retJ (by decide +kernel) rfl ⟨rfl, by rw [← ek, if_pos (Or.inl q18)]⟩ (lb rfl) (lb rfl)
          · intro q18
            refine G.seg [(58, .iload 8, 2), (60, .bipush 57, 2)] (by decide +kernel) (pc' := 62) (L' := #[.val (.ref t), .val (.long mx), .second, .val (.int (Int32.ofNat cs.length)), .val (.long v), .second, .val (.int o), .val (.int (Int32.ofNat k)), .val (.int c), .val (.int u2)]) (S' := [.int (57 : Int32), .int c]) rfl ?_
            refine G.icle (o := (7)) (pc' := 69) (by decide +kernel) (by decide) rfl ?_ ?_
            · intro q19
              exact J () (fun z => z.elim q18 q19)
            · intro q19
              refine G.ldcJ (by decide +kernel) (tw 92 rfl) ?_
              exact G.retJ (by decide +kernel) rfl ⟨rfl, by rw [← ek, if_pos (Or.inr q19)]⟩ (lb rfl) (lb rfl)
        rintro _ hd
        dsimp only
        rw [if_neg hd] at ek
        refine G.seg [(69, .iload 8, 2), (71, .bipush 48, 2), (73, .isub, 1), (74, .istore 9, 2)] (by decide +kernel) (pc' := 76) (L' := #[.val (.ref t), .val (.long mx), .second, .val (.int (Int32.ofNat cs.length)), .val (.long v), .second, .val (.int o), .val (.int (Int32.ofNat k)), .val (.int c), .val (.int (c - (48 : Int32)))]) (S' := []) rfl ?_
        refine G.seg [(76, .iload 6, 2)] (by decide +kernel) (pc' := 78) (L' := #[.val (.ref t), .val (.long mx), .second, .val (.int (Int32.ofNat cs.length)), .val (.long v), .second, .val (.int o), .val (.int (Int32.ofNat k)), .val (.int c), .val (.int (c - (48 : Int32)))]) (S' := [.int o]) rfl ?_
        refine G.join (fun o2 : Int32 => o2 = nx mx v o c) (fun o2 => (h17, 0, 0, 102, #[.val (.ref t), .val (.long mx), .second, .val (.int (Int32.ofNat cs.length)), .val (.long v), .second, .val (.int o), .val (.int (Int32.ofNat k)), .val (.int c), .val (.int (c - (48 : Int32)))], [.int o2])) ?_ ?_
        · intro J
          refine G.ifne (o := (19)) (pc' := 97) (by decide +kernel) (by decide) rfl ?_ ?_
          · intro q20
            refine G.seg [(97, .iconst 1, 1), (98, .goto 4, 3)] (by decide +kernel) (pc' := 102) (L' := #[.val (.ref t), .val (.long mx), .second, .val (.int (Int32.ofNat cs.length)), .val (.long v), .second, .val (.int o), .val (.int (Int32.ofNat k)), .val (.int c), .val (.int (c - (48 : Int32)))]) (S' := [.int (1 : Int32)]) rfl ?_
            exact J 1 (by rw [nx, if_pos (Or.inl q20)])
          · intro q20
            refine G.seg [(81, .lload 4, 2), (83, .lload_n 1, 1), (84, .iload 9, 2), (86, .i2l, 1), (87, .lsub, 1), (88, .bipush 10, 2)] (by decide +kernel) (pc' := 90) (L' := #[.val (.ref t), .val (.long mx), .second, .val (.int (Int32.ofNat cs.length)), .val (.long v), .second, .val (.int o), .val (.int (Int32.ofNat k)), .val (.int c), .val (.int (c - (48 : Int32)))]) (S' := [.int (10 : Int32), .long (mx - ((c - (48 : Int32)).toInt64)), .long v]) rfl ?_
            refine G.static (y := ⟨"java/lang/Math", "floorDiv", "(JI)J"⟩) (argsL := [.long (mx - ((c - (48 : Int32)).toInt64)), .int (10 : Int32)]) (rest := [.long v]) (W := 2) (by decide +kernel) (tw 83 rfl) (tw 84 rfl) (tw 85 rfl) (tw 86 rfl) (by decide) ((fdiC l Z a0 n0 h17 (mx - (c - (48 : Int32)).toInt64)).pays (tw 86 rfl) (tw 85 rfl) (lb rfl) (lb rfl)) (lenOf pd7 rfl) rfl (Nat.le_of_eq rfl) rfl (lb rfl) (lb rfl) ?_
            rintro _ h21 ⟨rfl, rfl⟩
            refine G.seg [(93, .lcmp, 1)] (by decide +kernel) (pc' := 94) (L' := #[.val (.ref t), .val (.long mx), .second, .val (.int (Int32.ofNat cs.length)), .val (.long v), .second, .val (.int o), .val (.int (Int32.ofNat k)), .val (.int c), .val (.int (c - (48 : Int32)))]) (S' := [.int (XT.cmpL v (fd10 (mx - (c - (48 : Int32)).toInt64)))]) rfl ?_
            refine G.ifle (o := (7)) (pc' := 101) (by decide +kernel) (by decide) rfl ?_ ?_
            · intro q22
              refine G.seg [(101, .iconst 0, 1)] (by decide +kernel) (pc' := 102) (L' := #[.val (.ref t), .val (.long mx), .second, .val (.int (Int32.ofNat cs.length)), .val (.long v), .second, .val (.int o), .val (.int (Int32.ofNat k)), .val (.int c), .val (.int (c - (48 : Int32)))]) (S' := [.int (0 : Int32)]) rfl ?_
              exact J 0 (by rw [nx, if_neg (fun z => z.elim (fun z => z q20) q22)])
            · intro q22
              refine G.seg [(97, .iconst 1, 1), (98, .goto 4, 3)] (by decide +kernel) (pc' := 102) (L' := #[.val (.ref t), .val (.long mx), .second, .val (.int (Int32.ofNat cs.length)), .val (.long v), .second, .val (.int o), .val (.int (Int32.ofNat k)), .val (.int c), .val (.int (c - (48 : Int32)))]) (S' := [.int (1 : Int32)]) rfl ?_
              exact J 1 (by rw [nx, if_pos (Or.inr q22)])
        rintro o2 eo
        dsimp only
        rw [← eo] at ek
        refine G.seg [(102, .istore 6, 2)] (by decide +kernel) (pc' := 104) (L' := #[.val (.ref t), .val (.long mx), .second, .val (.int (Int32.ofNat cs.length)), .val (.long v), .second, .val (.int o2), .val (.int (Int32.ofNat k)), .val (.int c), .val (.int (c - (48 : Int32)))]) (S' := []) rfl ?_
        refine G.seg [(104, .iload 6, 2)] (by decide +kernel) (pc' := 106) (L' := #[.val (.ref t), .val (.long mx), .second, .val (.int (Int32.ofNat cs.length)), .val (.long v), .second, .val (.int o2), .val (.int (Int32.ofNat k)), .val (.int c), .val (.int (c - (48 : Int32)))]) (S' := [.int o2]) rfl ?_
        refine G.ifne (o := (15)) (pc' := 121) (by decide +kernel) (by decide) rfl ?_ ?_
        · intro q23
          rw [if_neg q23] at ek
          refine G.seg [(121, .iinc 7 1, 3)] (by decide +kernel) (pc' := 124) (L' := #[.val (.ref t), .val (.long mx), .second, .val (.int (Int32.ofNat cs.length)), .val (.long v), .second, .val (.int o2), .val (.int ((Int32.ofNat k) + (1 : Int32))), .val (.int c), .val (.int (c - (48 : Int32)))]) (S' := []) rfl ?_
          refine G.seg [(124, .goto (-87), 3)] (by decide +kernel) (pc' := 37) (L' := #[.val (.ref t), .val (.long mx), .second, .val (.int (Int32.ofNat cs.length)), .val (.long v), .second, .val (.int o2), .val (.int ((Int32.ofNat k) + (1 : Int32))), .val (.int c), .val (.int (c - (48 : Int32)))]) (S' := []) rfl ?_
          rw [show Int32.ofNat k + (1 : Int32) = Int32.ofNat (k + 1) from addN k 1]
          exact ih (k + 1, v, o2, some (c, c - (48 : Int32))) ⟨hk2, ek⟩ (by dsimp only; omega)
        · intro q23
          rw [if_pos q23] at ek
          refine G.seg [(109, .lload 4, 2)] (by decide +kernel) (pc' := 111) (L' := #[.val (.ref t), .val (.long mx), .second, .val (.int (Int32.ofNat cs.length)), .val (.long v), .second, .val (.int o2), .val (.int (Int32.ofNat k)), .val (.int c), .val (.int (c - (48 : Int32)))]) (S' := [.long v]) rfl ?_
          refine G.ldcJ (by decide +kernel) (tw 90 rfl) ?_
          refine G.seg [(114, .lmul, 1), (115, .iload 9, 2), (117, .i2l, 1), (118, .ladd, 1), (119, .lstore 4, 2)] (by decide +kernel) (pc' := 121) (L' := #[.val (.ref t), .val (.long mx), .second, .val (.int (Int32.ofNat cs.length)), .val (.long ((v * (10 : Int64)) + ((c - (48 : Int32)).toInt64))), .second, .val (.int o2), .val (.int (Int32.ofNat k)), .val (.int c), .val (.int (c - (48 : Int32)))]) (S' := []) rfl ?_
          refine G.seg [(121, .iinc 7 1, 3)] (by decide +kernel) (pc' := 124) (L' := #[.val (.ref t), .val (.long mx), .second, .val (.int (Int32.ofNat cs.length)), .val (.long ((v * (10 : Int64)) + ((c - (48 : Int32)).toInt64))), .second, .val (.int o2), .val (.int ((Int32.ofNat k) + (1 : Int32))), .val (.int c), .val (.int (c - (48 : Int32)))]) (S' := []) rfl ?_
          refine G.seg [(124, .goto (-87), 3)] (by decide +kernel) (pc' := 37) (L' := #[.val (.ref t), .val (.long mx), .second, .val (.int (Int32.ofNat cs.length)), .val (.long ((v * (10 : Int64)) + ((c - (48 : Int32)).toInt64))), .second, .val (.int o2), .val (.int ((Int32.ofNat k) + (1 : Int32))), .val (.int c), .val (.int (c - (48 : Int32)))]) (S' := []) rfl ?_
          rw [show Int32.ofNat k + (1 : Int32) = Int32.ofNat (k + 1) from addN k 1]
          exact ih (k + 1, (v * (10 : Int64)) + (c - (48 : Int32)).toInt64, o2, some (c, c - (48 : Int32))) ⟨hk2, ek⟩ (by dsimp only; omega)

def capF (mx : Int64) (cs : List Int32) : Int64 := if XT.cmpL (readF mx cs) (-2 : Int64) = 0 then mx else readF mx cs
set_option maxRecDepth 65536 in
set_option maxHeartbeats 4000000 in
theorem capC (l : Launch) (Z : State) (a0 : Array Value) (n0 : Nat) (h : Heap) {EL : List (String × Nat)} (t : Addr) (cs : List Int32) (mx : Int64) (A : Str Z h t cs) (hCS : CS Z) (hFM : FM Z) :
    Ct l Z a0 EL tables_1 [] n0 ⟨"com/example/mynah/mynah/PlainDecimal", "parseCapped", "(Ljava/lang/String;J)J"⟩ prog_21_method_3_code 5 (some (.long)) ({ frames := 5, cells := 0, slots := 0, locals := 115 } : Room) #[.ref t, .long mx] h (fun r h' => h' = h ∧ r = some (.long (capF mx cs))) := by
  refine Ct.of_body pn5 (L0 := #[.val (.ref t), .val (.long mx), .second, .unset, .unset]) (fun m => by exact ef_of rfl) (fun hEL hw hO => ?_)
  refine G.seg [(0, .aload_n 0, 1), (1, .lload_n 1, 1)] (by decide +kernel) (pc' := 2) (L' := #[.val (.ref t), .val (.long mx), .second, .unset, .unset]) (S' := [.long mx, .ref t]) rfl ?_
  refine G.static (y := ⟨"com/example/mynah/mynah/PlainDecimal", "read", "(Ljava/lang/String;J)J"⟩) (argsL := [.ref t, .long mx]) (rest := []) (W := 0) (by decide +kernel) (tw 48 rfl) (tw 49 rfl) (tw 46 rfl) (tw 50 rfl) (by decide) ((readC l Z a0 n0 h t cs mx A hCS hFM).pays (tw 50 rfl) (tw 46 rfl) (lb rfl) (lb rfl)) (lenOf pd8 rfl) rfl (Nat.le_of_eq rfl) rfl (lb rfl) (lb rfl) ?_
  rintro _ h1 ⟨rfl, rfl⟩
  refine G.seg [(5, .lstore_n 3, 1)] (by decide +kernel) (pc' := 6) (L' := #[.val (.ref t), .val (.long mx), .second, .val (.long (readF mx cs)), .second]) (S' := []) rfl ?_
  refine G.seg [(6, .lload_n 3, 1)] (by decide +kernel) (pc' := 7) (L' := #[.val (.ref t), .val (.long mx), .second, .val (.long (readF mx cs)), .second]) (S' := [.long (readF mx cs)]) rfl ?_
  refine G.ldcJ (by decide +kernel) (tw 91 rfl) ?_
  refine G.seg [(10, .lcmp, 1)] (by decide +kernel) (pc' := 11) (L' := #[.val (.ref t), .val (.long mx), .second, .val (.long (readF mx cs)), .second]) (S' := [.int (XT.cmpL (readF mx cs) (-2 : Int64))]) rfl ?_
  refine G.ifne (o := (7)) (pc' := 18) (by decide +kernel) (by decide) rfl ?_ ?_
  · intro q2
    refine G.seg [(18, .lload_n 3, 1)] (by decide +kernel) (pc' := 19) (L' := #[.val (.ref t), .val (.long mx), .second, .val (.long (readF mx cs)), .second]) (S' := [.long (readF mx cs)]) rfl ?_
    exact G.retJ (by decide +kernel) rfl ⟨rfl, by rw [capF, if_neg q2]⟩ (lb rfl) (lb rfl)
  · intro q2
    refine G.seg [(14, .lload_n 1, 1), (15, .goto 4, 3)] (by decide +kernel) (pc' := 19) (L' := #[.val (.ref t), .val (.long mx), .second, .val (.long (readF mx cs)), .second]) (S' := [.long mx]) rfl ?_
    exact G.retJ (by decide +kernel) rfl ⟨rfl, by rw [capF, if_pos q2]⟩ (lb rfl) (lb rfl)

set_option maxRecDepth 65536 in
set_option maxHeartbeats 4000000 in
theorem pgnC (l : Launch) (Z : State) (a0 : Array Value) (n0 : Nat) (h : Heap)  :
    Ct l Z a0 consts_1 tables_1 [] n0 ⟨"com/example/mynah/mynah/FeedReader", "pageSize", "(Ljava/lang/String;)I"⟩ prog_11_method_4_code 4 (some (.int)) ({ frames := 0, cells := 0, slots := 0, locals := 0 } : Room) #[.null] h (fun r h' => h' = h ∧ r = some (.int 1000)) := by
  refine Ct.of_body pn6 (L0 := #[.val (.null), .unset, .unset, .unset]) (fun m => by exact ef_of rfl) (fun hEL hw hO => ?_)
  refine G.seg [(0, .sipush 1000, 3), (3, .istore_n 1, 1)] (by decide +kernel) (pc' := 4) (L' := #[.val (.null), .val (.int (1000 : Int32)), .unset, .unset]) (S' := []) rfl ?_
  refine G.seg [(4, .aload_n 0, 1)] (by decide +kernel) (pc' := 5) (L' := #[.val (.null), .val (.int (1000 : Int32)), .unset, .unset]) (S' := [.null]) rfl ?_
  refine G.nulljmp (o := (34)) (pc' := 39) rfl (by decide +kernel) (by decide) rfl ?_ (fun q1 => absurd rfl q1)
  intro _
  refine G.seg [(39, .iload_n 1, 1)] (by decide +kernel) (pc' := 40) (L' := #[.val (.null), .val (.int (1000 : Int32)), .unset, .unset]) (S' := [.int (1000 : Int32)]) rfl ?_
  exact G.retI (by decide +kernel) rfl ⟨rfl, rfl⟩ (lb rfl) (lb rfl)

set_option maxRecDepth 65536 in
set_option maxHeartbeats 4000000 in
theorem pgsC (l : Launch) (Z : State) (a0 : Array Value) (n0 : Nat) (h : Heap) (t : Addr) (cs : List Int32) (A : Str Z h t cs) (hCS : CS Z) (hFM : FM Z) (hge : ¬ XT.cmpL (capF 1000 cs) (1 : Int64) < 0) :
    Ct l Z a0 consts_1 tables_1 [] n0 ⟨"com/example/mynah/mynah/FeedReader", "pageSize", "(Ljava/lang/String;)I"⟩ prog_11_method_4_code 4 (some (.int)) ({ frames := 6, cells := 0, slots := 0, locals := 135 } : Room) #[.ref t] h (fun r h' => h' = h ∧ r = some (.int (capF 1000 cs).toInt32)) := by
  refine Ct.of_body pn6 (L0 := #[.val (.ref t), .unset, .unset, .unset]) (fun m => by exact ef_of rfl) (fun hEL hw hO => ?_)
  refine G.seg [(0, .sipush 1000, 3), (3, .istore_n 1, 1)] (by decide +kernel) (pc' := 4) (L' := #[.val (.ref t), .val (.int (1000 : Int32)), .unset, .unset]) (S' := []) rfl ?_
  refine G.seg [(4, .aload_n 0, 1)] (by decide +kernel) (pc' := 5) (L' := #[.val (.ref t), .val (.int (1000 : Int32)), .unset, .unset]) (S' := [.ref t]) rfl ?_
  refine G.nulljmp (o := (34)) (pc' := 39) rfl (by decide +kernel) (by decide) rfl (fun q1 => absurd q1 (fun z => nomatch z)) ?_
  intro _
  refine G.seg [(8, .aload_n 0, 1)] (by decide +kernel) (pc' := 9) (L' := #[.val (.ref t), .val (.int (1000 : Int32)), .unset, .unset]) (S' := [.ref t]) rfl ?_
  refine G.ldcJ (by decide +kernel) (tw 43 rfl) ?_
  refine G.static (y := ⟨"com/example/mynah/mynah/PlainDecimal", "parseCapped", "(Ljava/lang/String;J)J"⟩) (argsL := [.ref t, .long (1000 : Int64)]) (rest := []) (W := 0) (by decide +kernel) (tw 44 rfl) (tw 45 rfl) (tw 46 rfl) (tw 47 rfl) (by decide) ((capC l Z a0 n0 h t cs 1000 A hCS hFM).pays (tw 47 rfl) (tw 46 rfl) (lb rfl) (lb rfl)) (lenOf pd8 rfl) rfl (Nat.le_of_eq rfl) rfl (lb rfl) (lb rfl) ?_
  rintro _ h2 ⟨rfl, rfl⟩
  refine G.seg [(15, .lstore_n 2, 1)] (by decide +kernel) (pc' := 16) (L' := #[.val (.ref t), .val (.int (1000 : Int32)), .val (.long (capF 1000 cs)), .second]) (S' := []) rfl ?_
  refine G.seg [(16, .lload_n 2, 1), (17, .lconst 1, 1), (18, .lcmp, 1)] (by decide +kernel) (pc' := 19) (L' := #[.val (.ref t), .val (.int (1000 : Int32)), .val (.long (capF 1000 cs)), .second]) (S' := [.int (XT.cmpL (capF 1000 cs) (1 : Int64))]) rfl ?_
  refine G.ifge (o := (17)) (pc' := 36) (by decide +kernel) (by decide) rfl ?_ (fun q3 => absurd q3 hge)
  intro _
  refine G.seg [(36, .lload_n 2, 1), (37, .l2i, 1), (38, .istore_n 1, 1)] (by decide +kernel) (pc' := 39) (L' := #[.val (.ref t), .val (.int ((capF 1000 cs).toInt32)), .val (.long (capF 1000 cs)), .second]) (S' := []) rfl ?_
  refine G.seg [(39, .iload_n 1, 1)] (by decide +kernel) (pc' := 40) (L' := #[.val (.ref t), .val (.int ((capF 1000 cs).toInt32)), .val (.long (capF 1000 cs)), .second]) (S' := [.int ((capF 1000 cs).toInt32)]) rfl ?_
  exact G.retI (by decide +kernel) rfl ⟨rfl, rfl⟩ (lb rfl) (lb rfl)

theorem dg (y : Int64) : ∃ d : Fin 10, ((48 : Int32) + ((y &&& (15 : Int64)).toInt32 % (10 : Int32))).toUInt32.toUInt16.toUInt32.toInt32 = Int32.ofNat (48 + d.val) := by
  have h1 : (y &&& 15).toBitVec.toNat < 16 := by
    simp only [Int64.toBitVec_and, BitVec.toNat_and]; exact Nat.lt_of_le_of_lt Nat.and_le_right (by decide)
  have h2 : y &&& 15 = Int64.ofNat (y &&& 15).toBitVec.toNat := by
    apply Int64.toBitVec_inj.mp; show _ = BitVec.ofNat 64 _; rw [BitVec.ofNat_toNat]; simp
  rw [h2]; generalize (y &&& 15).toBitVec.toNat = k at h1
  have : ∀ k : Fin 16, ∃ d : Fin 10, ((48 : Int32) + ((Int64.ofNat k.val).toInt32 % (10 : Int32))).toUInt32.toUInt16.toUInt32.toInt32 = Int32.ofNat (48 + d.val) := by decide +kernel
  exact this ⟨k, h1⟩
theorem b8d (d : Fin 10) : b8 (Int32.ofNat (48 + d.val)) := by revert d; unfold b8; decide +kernel
set_option maxRecDepth 65536 in
set_option maxHeartbeats 4000000 in
theorem digC (l : Launch) (Z : State) (a0 : Array Value) (n0 : Nat) (h : Heap) (y : Int64) (i : Int32) :
    Ct l Z a0 consts_1 tables_1 [] n0 ⟨"com/example/mynah/mynah/FeedReaderPageSizePinLaw", "digit", "(JI)C"⟩ method_3_code 3 (some (.char)) ({ frames := 0, cells := 0, slots := 0, locals := 0 } : Room) #[.long y, .int i] h (fun r h' => ∃ d : Fin 10, h' = h ∧ r = some (.int (Int32.ofNat (48 + d.val)))) := by
  refine Ct.of_body pn7 (L0 := #[.val (.long y), .second, .val (.int i)]) (fun m => by exact ef_of rfl) (fun hEL hw hO => ?_)
  refine G.seg [(0, .bipush 48, 2), (2, .lload_n 0, 1), (3, .iconst 4, 1), (4, .iload_n 2, 1), (5, .imul, 1), (6, .lushr, 1)] (by decide +kernel) (pc' := 7) (L' := #[.val (.long y), .second, .val (.int i)]) (S' := [.long (XT.ushrL y ((4 : Int32) * i)), .int (48 : Int32)]) rfl ?_
  refine G.ldcJ (by decide +kernel) (tw 10 rfl) ?_
  refine G.seg [(10, .land, 1), (11, .l2i, 1), (12, .bipush 10, 2), (14, .irem, 1), (15, .iadd, 1), (16, .i2c, 1)] (by decide +kernel) (pc' := 17) (L' := #[.val (.long y), .second, .val (.int i)]) (S' := [.int (((48 : Int32) + ((((XT.ushrL y ((4 : Int32) * i)) &&& (15 : Int64)).toInt32) % (10 : Int32))).toUInt32.toUInt16.toUInt32.toInt32)]) rfl ?_
  obtain ⟨d, ed⟩ := dg (XT.ushrL y ((4 : Int32) * i))
  rw [ed]
  exact G.retN (by decide +kernel) rfl (Or.inr (Or.inr (Or.inl rfl))) (nar_b8 (b8d d)) ⟨d, rfl, rfl⟩ (lb rfl) (lb rfl)

set_option maxRecDepth 65536 in
set_option maxHeartbeats 4000000 in
theorem makeC (l : Launch) (Z : State) (a0 : Array Value) (n0 : Nat) (h : Heap) (n : Int32) (hn : n = 1 ∨ n = 2 ∨ n = 3 ∨ n = 4 ∨ n = 5 ∨ n = 6 ∨ n = 7 ∨ n = 8 ∨ n = 9 ∨ n = 10 ∨ n = 11 ∨ n = 18 ∨ n = 19 ∨ n = 20 ∨ n = 21) :
    Ct l Z a0 consts_1 tables_1 [] n0 ⟨"com/example/mynah/mynah/FeedReaderPageSizePinLaw", "make", "(I)[C"⟩ method_4_code 1 (some (.array (.char))) ({ frames := 0, cells := 1, slots := 21, locals := 0 } : Room) #[.int n] h (fun r h' => ∃ (s : Addr) (ks : ClassId), r = some (.ref s) ∧ Keep h h' [] ∧ n0 ≤ s ∧ h.size ≤ s ∧ Arv Z h' s ks .char n [] (.int 0)) := by
  refine Ct.of_body pn7 (L0 := #[.val (.int n)]) (fun m => by exact ef_of rfl) (fun hEL hw hO => ?_)
  refine G.seg [(0, .iload_n 0, 1), (1, .iconst 1, 1)] (by decide +kernel) (pc' := 2) (L' := #[.val (.int n)]) (S' := [.int (1 : Int32), .int n]) rfl ?_
  refine G.icne (o := (7)) (pc' := 9) (by decide +kernel) (by decide) rfl ?_ ?_
  · intro q1
    refine G.seg [(9, .iload_n 0, 1), (10, .iconst 2, 1)] (by decide +kernel) (pc' := 11) (L' := #[.val (.int n)]) (S' := [.int (2 : Int32), .int n]) rfl ?_
    refine G.icne (o := (7)) (pc' := 18) (by decide +kernel) (by decide) rfl ?_ ?_
    · intro q2
      refine G.seg [(18, .iload_n 0, 1), (19, .iconst 3, 1)] (by decide +kernel) (pc' := 20) (L' := #[.val (.int n)]) (S' := [.int (3 : Int32), .int n]) rfl ?_
      refine G.icne (o := (7)) (pc' := 27) (by decide +kernel) (by decide) rfl ?_ ?_
      · intro q3
        refine G.seg [(27, .iload_n 0, 1), (28, .iconst 4, 1)] (by decide +kernel) (pc' := 29) (L' := #[.val (.int n)]) (S' := [.int (4 : Int32), .int n]) rfl ?_
        refine G.icne (o := (7)) (pc' := 36) (by decide +kernel) (by decide) rfl ?_ ?_
        · intro q4
          refine G.seg [(36, .iload_n 0, 1), (37, .iconst 5, 1)] (by decide +kernel) (pc' := 38) (L' := #[.val (.int n)]) (S' := [.int (5 : Int32), .int n]) rfl ?_
          refine G.icne (o := (7)) (pc' := 45) (by decide +kernel) (by decide) rfl ?_ ?_
          · intro q5
            refine G.seg [(45, .iload_n 0, 1), (46, .bipush 6, 2)] (by decide +kernel) (pc' := 48) (L' := #[.val (.int n)]) (S' := [.int (6 : Int32), .int n]) rfl ?_
            refine G.icne (o := (8)) (pc' := 56) (by decide +kernel) (by decide) rfl ?_ ?_
            · intro q6
              refine G.seg [(56, .iload_n 0, 1), (57, .bipush 7, 2)] (by decide +kernel) (pc' := 59) (L' := #[.val (.int n)]) (S' := [.int (7 : Int32), .int n]) rfl ?_
              refine G.icne (o := (8)) (pc' := 67) (by decide +kernel) (by decide) rfl ?_ ?_
              · intro q7
                refine G.seg [(67, .iload_n 0, 1), (68, .bipush 8, 2)] (by decide +kernel) (pc' := 70) (L' := #[.val (.int n)]) (S' := [.int (8 : Int32), .int n]) rfl ?_
                refine G.icne (o := (8)) (pc' := 78) (by decide +kernel) (by decide) rfl ?_ ?_
                · intro q8
                  refine G.seg [(78, .iload_n 0, 1), (79, .bipush 9, 2)] (by decide +kernel) (pc' := 81) (L' := #[.val (.int n)]) (S' := [.int (9 : Int32), .int n]) rfl ?_
                  refine G.icne (o := (8)) (pc' := 89) (by decide +kernel) (by decide) rfl ?_ ?_
                  · intro q9
                    refine G.seg [(89, .iload_n 0, 1), (90, .bipush 10, 2)] (by decide +kernel) (pc' := 92) (L' := #[.val (.int n)]) (S' := [.int (10 : Int32), .int n]) rfl ?_
                    refine G.icne (o := (8)) (pc' := 100) (by decide +kernel) (by decide) rfl ?_ ?_
                    · intro q10
                      refine G.seg [(100, .iload_n 0, 1), (101, .bipush 11, 2)] (by decide +kernel) (pc' := 103) (L' := #[.val (.int n)]) (S' := [.int (11 : Int32), .int n]) rfl ?_
                      refine G.icne (o := (8)) (pc' := 111) (by decide +kernel) (by decide) rfl ?_ ?_
                      · intro q11
                        refine G.seg [(111, .iload_n 0, 1), (112, .bipush 18, 2)] (by decide +kernel) (pc' := 114) (L' := #[.val (.int n)]) (S' := [.int (18 : Int32), .int n]) rfl ?_
                        refine G.icne (o := (8)) (pc' := 122) (by decide +kernel) (by decide) rfl ?_ ?_
                        · intro q12
                          refine G.seg [(122, .iload_n 0, 1), (123, .bipush 19, 2)] (by decide +kernel) (pc' := 125) (L' := #[.val (.int n)]) (S' := [.int (19 : Int32), .int n]) rfl ?_
                          refine G.icne (o := (8)) (pc' := 133) (by decide +kernel) (by decide) rfl ?_ ?_
                          · intro q13
                            refine G.seg [(133, .iload_n 0, 1), (134, .bipush 20, 2)] (by decide +kernel) (pc' := 136) (L' := #[.val (.int n)]) (S' := [.int (20 : Int32), .int n]) rfl ?_
                            refine G.icne (o := (8)) (pc' := 144) (by decide +kernel) (by decide) rfl ?_ ?_
                            · intro q14
                              refine G.seg [(144, .bipush 21, 2)] (by decide +kernel) (pc' := 146) (L' := #[.val (.int n)]) (S' := [.int (21 : Int32)]) rfl ?_
                              refine G.newarr (aty := .char) (ty := .char) (cap := 21) rfl (by decide +kernel) (tw 5 rfl) (by decide) (lb rfl) (lb rfl) (lb rfl) (lb rfl) ?_
                              intro h15 a15 k15 g15 n15 K15 A15
                              have en : n = 21 := (by rcases hn with rfl | rfl | rfl | rfl | rfl | rfl | rfl | rfl | rfl | rfl | rfl | rfl | rfl | rfl | rfl <;> first | rfl | exact absurd rfl q1 | exact absurd rfl q2 | exact absurd rfl q3 | exact absurd rfl q4 | exact absurd rfl q5 | exact absurd rfl q6 | exact absurd rfl q7 | exact absurd rfl q8 | exact absurd rfl q9 | exact absurd rfl q10 | exact absurd rfl q11 | exact absurd rfl q12 | exact absurd rfl q13 | exact absurd rfl q14)
                              exact G.retA (by decide +kernel) rfl rfl rfl rfl ⟨a15, k15, rfl, K15, n15, Nat.le_of_eq g15.symm, by rw [en]; exact A15.pad (fun i => (pad_rep [] (.int 0) 21 i).symm)⟩ (lb rfl) (lb rfl)
                            · intro q14
                              refine G.seg [(139, .bipush 20, 2)] (by decide +kernel) (pc' := 141) (L' := #[.val (.int n)]) (S' := [.int (20 : Int32)]) rfl ?_
                              refine G.newarr (aty := .char) (ty := .char) (cap := 20) rfl (by decide +kernel) (tw 5 rfl) (by decide) (lb rfl) (lb rfl) (lb rfl) (lb rfl) ?_
                              intro h16 a16 k16 g16 n16 K16 A16
                              have en : n = 20 := q14
                              exact G.retA (by decide +kernel) rfl rfl rfl rfl ⟨a16, k16, rfl, K16, n16, Nat.le_of_eq g16.symm, by rw [en]; exact A16.pad (fun i => (pad_rep [] (.int 0) 20 i).symm)⟩ (lb rfl) (lb rfl)
                          · intro q13
                            refine G.seg [(128, .bipush 19, 2)] (by decide +kernel) (pc' := 130) (L' := #[.val (.int n)]) (S' := [.int (19 : Int32)]) rfl ?_
                            refine G.newarr (aty := .char) (ty := .char) (cap := 19) rfl (by decide +kernel) (tw 5 rfl) (by decide) (lb rfl) (lb rfl) (lb rfl) (lb rfl) ?_
                            intro h17 a17 k17 g17 n17 K17 A17
                            have en : n = 19 := q13
                            exact G.retA (by decide +kernel) rfl rfl rfl rfl ⟨a17, k17, rfl, K17, n17, Nat.le_of_eq g17.symm, by rw [en]; exact A17.pad (fun i => (pad_rep [] (.int 0) 19 i).symm)⟩ (lb rfl) (lb rfl)
                        · intro q12
                          refine G.seg [(117, .bipush 18, 2)] (by decide +kernel) (pc' := 119) (L' := #[.val (.int n)]) (S' := [.int (18 : Int32)]) rfl ?_
                          refine G.newarr (aty := .char) (ty := .char) (cap := 18) rfl (by decide +kernel) (tw 5 rfl) (by decide) (lb rfl) (lb rfl) (lb rfl) (lb rfl) ?_
                          intro h18 a18 k18 g18 n18 K18 A18
                          have en : n = 18 := q12
                          exact G.retA (by decide +kernel) rfl rfl rfl rfl ⟨a18, k18, rfl, K18, n18, Nat.le_of_eq g18.symm, by rw [en]; exact A18.pad (fun i => (pad_rep [] (.int 0) 18 i).symm)⟩ (lb rfl) (lb rfl)
                      · intro q11
                        refine G.seg [(106, .bipush 11, 2)] (by decide +kernel) (pc' := 108) (L' := #[.val (.int n)]) (S' := [.int (11 : Int32)]) rfl ?_
                        refine G.newarr (aty := .char) (ty := .char) (cap := 11) rfl (by decide +kernel) (tw 5 rfl) (by decide) (lb rfl) (lb rfl) (lb rfl) (lb rfl) ?_
                        intro h19 a19 k19 g19 n19 K19 A19
                        have en : n = 11 := q11
                        exact G.retA (by decide +kernel) rfl rfl rfl rfl ⟨a19, k19, rfl, K19, n19, Nat.le_of_eq g19.symm, by rw [en]; exact A19.pad (fun i => (pad_rep [] (.int 0) 11 i).symm)⟩ (lb rfl) (lb rfl)
                    · intro q10
                      refine G.seg [(95, .bipush 10, 2)] (by decide +kernel) (pc' := 97) (L' := #[.val (.int n)]) (S' := [.int (10 : Int32)]) rfl ?_
                      refine G.newarr (aty := .char) (ty := .char) (cap := 10) rfl (by decide +kernel) (tw 5 rfl) (by decide) (lb rfl) (lb rfl) (lb rfl) (lb rfl) ?_
                      intro h20 a20 k20 g20 n20 K20 A20
                      have en : n = 10 := q10
                      exact G.retA (by decide +kernel) rfl rfl rfl rfl ⟨a20, k20, rfl, K20, n20, Nat.le_of_eq g20.symm, by rw [en]; exact A20.pad (fun i => (pad_rep [] (.int 0) 10 i).symm)⟩ (lb rfl) (lb rfl)
                  · intro q9
                    refine G.seg [(84, .bipush 9, 2)] (by decide +kernel) (pc' := 86) (L' := #[.val (.int n)]) (S' := [.int (9 : Int32)]) rfl ?_
                    refine G.newarr (aty := .char) (ty := .char) (cap := 9) rfl (by decide +kernel) (tw 5 rfl) (by decide) (lb rfl) (lb rfl) (lb rfl) (lb rfl) ?_
                    intro h21 a21 k21 g21 n21 K21 A21
                    have en : n = 9 := q9
                    exact G.retA (by decide +kernel) rfl rfl rfl rfl ⟨a21, k21, rfl, K21, n21, Nat.le_of_eq g21.symm, by rw [en]; exact A21.pad (fun i => (pad_rep [] (.int 0) 9 i).symm)⟩ (lb rfl) (lb rfl)
                · intro q8
                  refine G.seg [(73, .bipush 8, 2)] (by decide +kernel) (pc' := 75) (L' := #[.val (.int n)]) (S' := [.int (8 : Int32)]) rfl ?_
                  refine G.newarr (aty := .char) (ty := .char) (cap := 8) rfl (by decide +kernel) (tw 5 rfl) (by decide) (lb rfl) (lb rfl) (lb rfl) (lb rfl) ?_
                  intro h22 a22 k22 g22 n22 K22 A22
                  have en : n = 8 := q8
                  exact G.retA (by decide +kernel) rfl rfl rfl rfl ⟨a22, k22, rfl, K22, n22, Nat.le_of_eq g22.symm, by rw [en]; exact A22.pad (fun i => (pad_rep [] (.int 0) 8 i).symm)⟩ (lb rfl) (lb rfl)
              · intro q7
                refine G.seg [(62, .bipush 7, 2)] (by decide +kernel) (pc' := 64) (L' := #[.val (.int n)]) (S' := [.int (7 : Int32)]) rfl ?_
                refine G.newarr (aty := .char) (ty := .char) (cap := 7) rfl (by decide +kernel) (tw 5 rfl) (by decide) (lb rfl) (lb rfl) (lb rfl) (lb rfl) ?_
                intro h23 a23 k23 g23 n23 K23 A23
                have en : n = 7 := q7
                exact G.retA (by decide +kernel) rfl rfl rfl rfl ⟨a23, k23, rfl, K23, n23, Nat.le_of_eq g23.symm, by rw [en]; exact A23.pad (fun i => (pad_rep [] (.int 0) 7 i).symm)⟩ (lb rfl) (lb rfl)
            · intro q6
              refine G.seg [(51, .bipush 6, 2)] (by decide +kernel) (pc' := 53) (L' := #[.val (.int n)]) (S' := [.int (6 : Int32)]) rfl ?_
              refine G.newarr (aty := .char) (ty := .char) (cap := 6) rfl (by decide +kernel) (tw 5 rfl) (by decide) (lb rfl) (lb rfl) (lb rfl) (lb rfl) ?_
              intro h24 a24 k24 g24 n24 K24 A24
              have en : n = 6 := q6
              exact G.retA (by decide +kernel) rfl rfl rfl rfl ⟨a24, k24, rfl, K24, n24, Nat.le_of_eq g24.symm, by rw [en]; exact A24.pad (fun i => (pad_rep [] (.int 0) 6 i).symm)⟩ (lb rfl) (lb rfl)
          · intro q5
            refine G.seg [(41, .iconst 5, 1)] (by decide +kernel) (pc' := 42) (L' := #[.val (.int n)]) (S' := [.int (5 : Int32)]) rfl ?_
            refine G.newarr (aty := .char) (ty := .char) (cap := 5) rfl (by decide +kernel) (tw 5 rfl) (by decide) (lb rfl) (lb rfl) (lb rfl) (lb rfl) ?_
            intro h25 a25 k25 g25 n25 K25 A25
            have en : n = 5 := q5
            exact G.retA (by decide +kernel) rfl rfl rfl rfl ⟨a25, k25, rfl, K25, n25, Nat.le_of_eq g25.symm, by rw [en]; exact A25.pad (fun i => (pad_rep [] (.int 0) 5 i).symm)⟩ (lb rfl) (lb rfl)
        · intro q4
          refine G.seg [(32, .iconst 4, 1)] (by decide +kernel) (pc' := 33) (L' := #[.val (.int n)]) (S' := [.int (4 : Int32)]) rfl ?_
          refine G.newarr (aty := .char) (ty := .char) (cap := 4) rfl (by decide +kernel) (tw 5 rfl) (by decide) (lb rfl) (lb rfl) (lb rfl) (lb rfl) ?_
          intro h26 a26 k26 g26 n26 K26 A26
          have en : n = 4 := q4
          exact G.retA (by decide +kernel) rfl rfl rfl rfl ⟨a26, k26, rfl, K26, n26, Nat.le_of_eq g26.symm, by rw [en]; exact A26.pad (fun i => (pad_rep [] (.int 0) 4 i).symm)⟩ (lb rfl) (lb rfl)
      · intro q3
        refine G.seg [(23, .iconst 3, 1)] (by decide +kernel) (pc' := 24) (L' := #[.val (.int n)]) (S' := [.int (3 : Int32)]) rfl ?_
        refine G.newarr (aty := .char) (ty := .char) (cap := 3) rfl (by decide +kernel) (tw 5 rfl) (by decide) (lb rfl) (lb rfl) (lb rfl) (lb rfl) ?_
        intro h27 a27 k27 g27 n27 K27 A27
        have en : n = 3 := q3
        exact G.retA (by decide +kernel) rfl rfl rfl rfl ⟨a27, k27, rfl, K27, n27, Nat.le_of_eq g27.symm, by rw [en]; exact A27.pad (fun i => (pad_rep [] (.int 0) 3 i).symm)⟩ (lb rfl) (lb rfl)
    · intro q2
      refine G.seg [(14, .iconst 2, 1)] (by decide +kernel) (pc' := 15) (L' := #[.val (.int n)]) (S' := [.int (2 : Int32)]) rfl ?_
      refine G.newarr (aty := .char) (ty := .char) (cap := 2) rfl (by decide +kernel) (tw 5 rfl) (by decide) (lb rfl) (lb rfl) (lb rfl) (lb rfl) ?_
      intro h28 a28 k28 g28 n28 K28 A28
      have en : n = 2 := q2
      exact G.retA (by decide +kernel) rfl rfl rfl rfl ⟨a28, k28, rfl, K28, n28, Nat.le_of_eq g28.symm, by rw [en]; exact A28.pad (fun i => (pad_rep [] (.int 0) 2 i).symm)⟩ (lb rfl) (lb rfl)
  · intro q1
    refine G.seg [(5, .iconst 1, 1)] (by decide +kernel) (pc' := 6) (L' := #[.val (.int n)]) (S' := [.int (1 : Int32)]) rfl ?_
    refine G.newarr (aty := .char) (ty := .char) (cap := 1) rfl (by decide +kernel) (tw 5 rfl) (by decide) (lb rfl) (lb rfl) (lb rfl) (lb rfl) ?_
    intro h29 a29 k29 g29 n29 K29 A29
    have en : n = 1 := q1
    exact G.retA (by decide +kernel) rfl rfl rfl rfl ⟨a29, k29, rfl, K29, n29, Nat.le_of_eq g29.symm, by rw [en]; exact A29.pad (fun i => (pad_rep [] (.int 0) 1 i).symm)⟩ (lb rfl) (lb rfl)

theorem cmp_pos {a b : Int64} : 0 < XT.cmpL a b ↔ b < a := by
  unfold XT.cmpL
  by_cases q : b < a
  · simp [q]
  · by_cases r : a = b
    · simp [q, r]
    · simp [q, r]
theorem cmp_neg {a b : Int64} : XT.cmpL a b < 0 ↔ a < b := by
  unfold XT.cmpL
  by_cases q : b < a
  · have : ¬ a < b := fun z => by rw [Int64.lt_iff_toInt_lt] at z q; omega
    simp [q, this]
  · by_cases r : a = b
    · subst r; simp [q]
    · have : a < b := by
        rw [Int64.lt_iff_toInt_lt] at q ⊢
        have : a.toInt ≠ b.toInt := fun z => r (Int64.toInt_inj.mp z)
        omega
      simp [q, r, this]
theorem cmp_zero {a b : Int64} : XT.cmpL a b = 0 ↔ a = b := by
  unfold XT.cmpL
  by_cases q : b < a
  · have : ¬ a = b := fun z => by rw [z] at q; rw [Int64.lt_iff_toInt_lt] at q; omega
    simp [q, this]
  · by_cases r : a = b
    · simp [q, r]
    · simp [q, r]
def chd (d : Nat) : Int32 := Int32.ofNat (48 + d)
theorem i64 {n : Nat} (q : n ≤ 100000) : (Int64.ofNat n).toInt = n := Int64.toInt_ofNat_of_lt (by omega)
theorem fd1000 {d : Nat} (hd : d ≤ 9) : fd10 (1000 - (chd d - (48 : Int32)).toInt64) = Int64.ofNat ((1000 - d) / 10) := by
  have : ∀ d : Fin 10, fd10 (1000 - (chd d.val - (48 : Int32)).toInt64) = Int64.ofNat ((1000 - d.val) / 10) := by decide +kernel
  exact this ⟨d, by omega⟩
theorem dval {d : Nat} (hd : d ≤ 9) : (chd d - (48 : Int32)).toInt64 = Int64.ofNat d := by
  have : ∀ d : Fin 10, (chd d.val - (48 : Int32)).toInt64 = Int64.ofNat d.val := by decide +kernel
  exact this ⟨d, by omega⟩
theorem dok {d : Nat} (hd : d ≤ 9) : ¬ (chd d < 48 ∨ 57 < chd d) := by
  have : ∀ d : Fin 10, ¬ (chd d.val < 48 ∨ 57 < chd d.val) := by decide +kernel
  exact this ⟨d, by omega⟩
theorem nx1000 {a d : Nat} (ha : a ≤ 1000) (hd : d ≤ 9) : nx 1000 (Int64.ofNat a) 0 (chd d) = if 1000 < 10 * a + d then 1 else 0 := by
  have e : (¬ ((0 : Int32) = 0) ∨ 0 < XT.cmpL (Int64.ofNat a) (fd10 (1000 - (chd d - (48 : Int32)).toInt64))) ↔ 1000 < 10 * a + d := by
    rw [fd1000 hd, cmp_pos, Int64.lt_iff_toInt_lt, i64 (by omega), i64 (by omega)]
    simp only [not_true_eq_false, false_or]
    omega
  unfold nx
  by_cases q : 1000 < 10 * a + d
  · rw [if_pos q, if_pos (e.mpr q)]
  · rw [if_neg q, if_neg (fun z => q (e.mp z))]
theorem rd_over {ds : List Nat} (hd : ∀ d ∈ ds, d ≤ 9) (v : Int64) : rdF 1000 (ds.map chd) v 1 = -2 := by
  induction ds generalizing v with
  | nil => rfl
  | cons d ds ih =>
    have h1 := hd d (List.mem_cons_self ..)
    have e : nx 1000 v 1 (chd d) = 1 := by unfold nx; rw [if_pos (Or.inl (by decide))]
    show (if chd d < 48 ∨ 57 < chd d then _ else _) = _
    rw [if_neg (dok h1), e]
    exact ih (fun x hx => hd x (List.mem_cons_of_mem _ hx)) _
def dec (ds : List Nat) (a : Nat) : Nat := ds.foldl (fun x d => 10 * x + d) a
theorem dec_ge (ds : List Nat) (a : Nat) : a * 10 ^ ds.length ≤ dec ds a := by
  induction ds generalizing a with
  | nil => simp [dec]
  | cons d ds ih =>
    have := ih (10 * a + d)
    show a * 10 ^ (ds.length + 1) ≤ dec ds (10 * a + d)
    refine Nat.le_trans ?_ this
    rw [Nat.pow_succ, Nat.mul_comm _ 10, ← Nat.mul_assoc, Nat.mul_comm a 10]
    exact Nat.mul_le_mul_right _ (Nat.le_add_right _ _)
theorem dec_le (ds : List Nat) (a : Nat) : a ≤ dec ds a := Nat.le_trans (Nat.le_mul_of_pos_right _ (Nat.pow_pos (by decide))) (dec_ge ds a)
theorem rd_val {ds : List Nat} (hd : ∀ d ∈ ds, d ≤ 9) {a : Nat} (ha : a ≤ 1000) : rdF 1000 (ds.map chd) (Int64.ofNat a) 0 = if 1000 < dec ds a then -2 else Int64.ofNat (dec ds a) := by
  induction ds generalizing a with
  | nil => rw [show dec [] a = a from rfl, if_neg (by omega)]; rfl
  | cons d ds ih =>
    have h1 := hd d (List.mem_cons_self ..)
    have h2 := fun x hx => hd x (List.mem_cons_of_mem _ hx)
    show (if chd d < 48 ∨ 57 < chd d then _ else _) = _
    rw [if_neg (dok h1), nx1000 ha h1]
    have es : dec (d :: ds) a = dec ds (10 * a + d) := rfl
    by_cases q : 1000 < 10 * a + d
    · rw [if_pos q, rd_over h2, es, if_pos (Nat.lt_of_lt_of_le q (dec_le _ _))]
    · rw [if_neg q, if_pos rfl, dval h1, es, ← ih h2 (by omega)]
      congr 1
      apply Int64.toBitVec_inj.mp
      show BitVec.ofNat 64 a * BitVec.ofNat 64 10 + BitVec.ofNat 64 d = BitVec.ofNat 64 (10 * a + d)
      rw [BitVec.ofNat_add, BitVec.ofNat_mul, BitVec.mul_comm]
theorem tk {cs : List Int32} {i : Nat} (q : i < cs.length) : (((cs.take i).map Value.int ++ [Value.int 0]).set i (.int (cs.getD i 0))) = (cs.take (i + 1)).map Value.int := by
  have e : ((cs.take i).map Value.int).length = i := by simp; omega
  rw [List.set_append_right _ _ (by omega), e, Nat.sub_self, List.set_cons_zero, List.take_succ_eq_append_getElem q, List.map_append]
  simp [List.getD_eq_getElem?_getD, q]
theorem nk (x : Int32) (q : ¬ x &&& 15 = 0) (n : Int32) (e : n = if 11 < x &&& 15 then (x &&& 15) + 6 else x &&& 15) : n = 1 ∨ n = 2 ∨ n = 3 ∨ n = 4 ∨ n = 5 ∨ n = 6 ∨ n = 7 ∨ n = 8 ∨ n = 9 ∨ n = 10 ∨ n = 11 ∨ n = 18 ∨ n = 19 ∨ n = 20 ∨ n = 21 := by
  obtain ⟨k, ek⟩ := andk x 15 16 (by decide)
  rw [ek] at q e
  subst e; clear ek; revert k; decide +kernel
theorem rem9 (x : Int32) : ∃ d : Nat, 1 ≤ d ∧ d ≤ 9 ∧ (1 : Int32) + (x &&& 2147483647) % 9 = Int32.ofNat d := by
  have h1 : (x &&& 2147483647).toBitVec.toNat ≤ 2147483647 := and_nat x 2147483647
  generalize x &&& 2147483647 = y at h1 ⊢
  have h2 : y.toInt = (y.toBitVec.toNat : Int) := BitVec.toInt_eq_toNat_of_lt (by omega)
  have h3 : (y % 9).toInt = y.toInt.tmod 9 := Int32.toInt_mod y 9
  rw [Int.tmod_eq_emod_of_nonneg (by omega)] at h3
  refine ⟨1 + (y % 9).toInt.toNat, by omega, by omega, ?_⟩
  rw [← addN]; congr 1
  apply Int32.toInt_inj.mp; rw [i32 (by omega)]; omega
theorem mN {n : Int32} (hn : n = 1 ∨ n = 2 ∨ n = 3 ∨ n = 4 ∨ n = 5 ∨ n = 6 ∨ n = 7 ∨ n = 8 ∨ n = 9 ∨ n = 10 ∨ n = 11 ∨ n = 18 ∨ n = 19 ∨ n = 20 ∨ n = 21) : ∃ m : Nat, n = Int32.ofNat m ∧ 1 ≤ m ∧ m ≤ 21 := by
  rcases hn with rfl | rfl | rfl | rfl | rfl | rfl | rfl | rfl | rfl | rfl | rfl | rfl | rfl | rfl | rfl
  · exact ⟨1, rfl, by decide, by decide⟩
  · exact ⟨2, rfl, by decide, by decide⟩
  · exact ⟨3, rfl, by decide, by decide⟩
  · exact ⟨4, rfl, by decide, by decide⟩
  · exact ⟨5, rfl, by decide, by decide⟩
  · exact ⟨6, rfl, by decide, by decide⟩
  · exact ⟨7, rfl, by decide, by decide⟩
  · exact ⟨8, rfl, by decide, by decide⟩
  · exact ⟨9, rfl, by decide, by decide⟩
  · exact ⟨10, rfl, by decide, by decide⟩
  · exact ⟨11, rfl, by decide, by decide⟩
  · exact ⟨18, rfl, by decide, by decide⟩
  · exact ⟨19, rfl, by decide, by decide⟩
  · exact ⟨20, rfl, by decide, by decide⟩
  · exact ⟨21, rfl, by decide, by decide⟩
theorem nlt2 {i m : Nat} (hm : m ≤ 21) (hi : i ≤ 21) : (Int32.ofNat i < Int32.ofNat m) ↔ i < m := by
  rw [Int32.lt_iff_toInt_lt, i32 (by omega), i32 (by omega)]; omega
theorem c48 {d : Nat} (h : d ≤ 9) : ((48 : Int32) + Int32.ofNat d).toUInt32.toUInt16.toUInt32.toInt32 = chd d := by
  have : ∀ d : Fin 10, ((48 : Int32) + Int32.ofNat d.val).toUInt32.toUInt16.toUInt32.toInt32 = chd d.val := by decide +kernel
  exact this ⟨d, by omega⟩
theorem b8c {d : Nat} (h : d ≤ 9) : b8 (chd d) := b8d ⟨d, by omega⟩
theorem getc (ds : List Nat) {i : Nat} (q : i < ds.length) : (ds.map chd).getD i 0 = chd (ds.getD i 0) := by
  simp [List.getD_eq_getElem?_getD, q]
theorem getv (ds : List Nat) (dv : Value) {i : Nat} (q : i < ds.length) : ((ds.map chd).map Value.int).getD i dv = .int ((ds.map chd).getD i 0) := by
  simp [List.getD_eq_getElem?_getD, q]
theorem latd {ds : List Nat} (h : ∀ d ∈ ds, d ≤ 9) : lat (ds.map chd) := fun c hc => by
  obtain ⟨d, hd, rfl⟩ := List.mem_map.mp hc
  exact b8c (h d hd)
/-- what the law expects, as a number -/
def expE (m d0 d1 d2 : Nat) : Nat := if 4 ≤ m then 1000 else if m = 1 then d0 else if m = 2 then d0 * 10 + d1 else d0 * 100 + d1 * 10 + d2
theorem cap_ok {ds : List Nat} {m : Nat} (h21 : ds.length = 21) (hd : ∀ d ∈ ds, d ≤ 9) (h0 : 1 ≤ ds.getD 0 0) (m1 : 1 ≤ m) (m2 : m ≤ 21) :
    capF 1000 ((ds.map chd).take m) = Int64.ofNat (expE m (ds.getD 0 0) (ds.getD 1 0) (ds.getD 2 0)) := by
  rw [← List.map_take]
  have hd' : ∀ d ∈ ds.take m, d ≤ 9 := fun d q => hd d (List.mem_of_mem_take q)
  have hl : (ds.take m).length = m := by simp; omega
  have hr : readF 1000 ((ds.take m).map chd) = if 1000 < dec (ds.take m) 0 then -2 else Int64.ofNat (dec (ds.take m) 0) := by
    rw [readF, List.length_map, hl, if_neg (by omega), if_neg, ← rd_val hd' (Nat.zero_le _)]; · rfl
    rintro ⟨q, -⟩
    rw [getc _ (by omega)] at q
    have e : (ds.take m).getD 0 0 = ds.getD 0 0 := by simp [List.getD_eq_getElem?_getD, List.getElem?_take, show 0 < m from m1]
    rw [e] at q
    have h9 : ds.getD 0 0 ≤ 9 := hd _ (by rw [List.getD_eq_getElem?_getD]; simp [h21])
    have : ∀ d : Fin 10, 1 ≤ d.val → ¬ chd d.val = 48 := by decide +kernel
    exact this ⟨ds.getD 0 0, by omega⟩ h0 q
  have key : ∀ v : Nat, v = dec (ds.take m) 0 → capF 1000 ((ds.take m).map chd) = Int64.ofNat (if 1000 < v then 1000 else v) := by
    rintro v rfl
    unfold capF
    rw [hr]
    by_cases q : 1000 < dec (ds.take m) 0
    · rw [if_pos q, if_pos q, if_pos (by decide)]; rfl
    · rw [if_neg q, if_neg q, if_neg]
      intro z
      have := congrArg Int64.toInt (cmp_zero.mp z)
      rw [i64 (by omega)] at this
      have e2 : (-2 : Int64).toInt = -2 := rfl
      omega
  rw [key _ rfl]
  congr 1
  match ds, h21, h0 with
  | a :: b :: c :: e :: r, h21, h0 =>
    simp only [List.getD_cons_zero, List.getD_cons_succ] at h0 ⊢
    have ha : a ≤ 9 := hd a (by simp)
    have hb : b ≤ 9 := hd b (by simp)
    have hc : c ≤ 9 := hd c (by simp)
    match m, m1 with
    | 1, _ => show (if 1000 < 10 * 0 + a then _ else _) = _; rw [if_neg (by omega)]; show 10 * 0 + a = a; omega
    | 2, _ => show (if 1000 < 10 * (10 * 0 + a) + b then _ else _) = _; rw [if_neg (by omega)]; show 10 * (10 * 0 + a) + b = a * 10 + b; omega
    | 3, _ => show (if 1000 < 10 * (10 * (10 * 0 + a) + b) + c then _ else _) = _; rw [if_neg (by omega)]; show 10 * (10 * (10 * 0 + a) + b) + c = a * 100 + b * 10 + c; omega
    | k + 4, _ =>
      have e1 : expE (k + 4) a b c = 1000 := by unfold expE; rw [if_pos (by omega)]
      have e2 : 1000 ≤ dec ((a :: b :: c :: e :: r).take (k + 4)) 0 := by
        show 1000 ≤ dec (r.take k) (10 * (10 * (10 * (10 * 0 + a) + b) + c) + e)
        exact Nat.le_trans (by omega) (dec_le _ _)
      rw [e1]
      split <;> omega
theorem gv (cs : List Int32) (i : Nat) : (cs.map Value.int).getD i (.int 0) = .int (cs.getD i 0) := by
  simp only [List.getD_eq_getElem?_getD, List.getElem?_map]
  cases cs[i]? <;> rfl
theorem sto {Z : State} {q : Heap} {s : Addr} {ks : ClassId} {z : Int32} {cs : List Int32} {i : Nat} (A : Arv Z q s ks .char z ((cs.take i).map Value.int) (.int 0)) : Arv Z q s ks .char z ((cs.take i).map Value.int ++ [Value.int 0]) (.int 0) := A.pad (fun j => pad_rep _ _ 1 j)
theorem stl {cs : List Int32} {i : Nat} (q : i < cs.length) : i < ((cs.take i).map Value.int ++ [Value.int 0]).length := by simp; omega
theorem dsub {ds : List Nat} (hd : ∀ d ∈ ds, d ≤ 9) {i : Nat} (q : i < ds.length) : (ds.map chd).getD i 0 - (48 : Int32) = Int32.ofNat (ds.getD i 0) := by
  rw [getc ds q]
  have h9 : ds.getD i 0 ≤ 9 := hd _ (by rw [List.getD_eq_getElem?_getD]; simp [q])
  have : ∀ d : Fin 10, chd d.val - (48 : Int32) = Int32.ofNat d.val := by decide +kernel
  exact this ⟨ds.getD i 0, by omega⟩
theorem mulN (a b : Nat) : Int32.ofNat a * Int32.ofNat b = Int32.ofNat (a * b) := by
  apply Int32.toBitVec_inj.mp
  show BitVec.ofNat 32 a * BitVec.ofNat 32 b = BitVec.ofNat 32 (a * b)
  rw [BitVec.ofNat_mul]
theorem ex1 {m d0 d1 d2 : Nat} (m2 : m ≤ 21) (q : ¬ Int32.ofNat m < 4) : (1000 : Int32) = Int32.ofNat (expE m d0 d1 d2) := by
  have : ¬ m < 4 := fun z => q ((nlt2 (i := m) (m := 4) (by decide) m2).mpr z)
  unfold expE; rw [if_pos (by omega)]; rfl
theorem ex2 {m d0 d1 d2 : Nat} (m2 : m ≤ 21) (q : Int32.ofNat m < 4) (q1 : Int32.ofNat m = 1) : Int32.ofNat d0 = Int32.ofNat (expE m d0 d1 d2) := by
  have : m = 1 := ninj (by omega) (by decide) q1
  subst this; rfl
theorem ex3 {m d0 d1 d2 : Nat} (m2 : m ≤ 21) (q : Int32.ofNat m < 4) (q1 : ¬ Int32.ofNat m = 1) (q2 : Int32.ofNat m = 2) : Int32.ofNat d0 * (10 : Int32) + Int32.ofNat d1 = Int32.ofNat (expE m d0 d1 d2) := by
  have : m = 2 := ninj (by omega) (by decide) q2
  subst this
  show Int32.ofNat d0 * Int32.ofNat 10 + Int32.ofNat d1 = Int32.ofNat (d0 * 10 + d1)
  rw [mulN, addN]
theorem ex4 {m d0 d1 d2 : Nat} (m2 : m ≤ 21) (q : Int32.ofNat m < 4) (q1 : ¬ Int32.ofNat m = 1) (q2 : ¬ Int32.ofNat m = 2) : (Int32.ofNat d0 * (100 : Int32) + Int32.ofNat d1 * (10 : Int32)) + Int32.ofNat d2 = Int32.ofNat (expE m d0 d1 d2) := by
  have h4 : m < 4 := (nlt2 (i := m) (m := 4) (by decide) m2).mp q
  have h1 : ¬ m = 1 := fun z => q1 (by rw [z]; rfl)
  have h2 : ¬ m = 2 := fun z => q2 (by rw [z]; rfl)
  show Int32.ofNat d0 * Int32.ofNat 100 + Int32.ofNat d1 * Int32.ofNat 10 + Int32.ofNat d2 = _
  rw [mulN, mulN, addN, addN]; unfold expE; rw [if_neg (by omega), if_neg h1, if_neg h2]
theorem expB {m d0 d1 d2 : Nat} (h0 : 1 ≤ d0) (h0' : d0 ≤ 9) (h1 : d1 ≤ 9) (h2 : d2 ≤ 9) : 1 ≤ expE m d0 d1 d2 ∧ expE m d0 d1 d2 ≤ 1000 := by
  unfold expE; split
  · omega
  · split
    · omega
    · split <;> omega
theorem i64n {k : Nat} (q : k ≤ 1000) : (Int64.ofNat k).toInt32 = Int32.ofNat k := by
  have : ∀ k : Fin 1001, (Int64.ofNat k.val).toInt32 = Int32.ofNat k.val := by decide +kernel
  exact this ⟨k, by omega⟩
theorem cge {k : Nat} (q : 1 ≤ k) (q' : k ≤ 1000) : ¬ XT.cmpL (Int64.ofNat k) (1 : Int64) < 0 := by
  rw [cmp_neg, Int64.lt_iff_toInt_lt, i64 (by omega)]
  have e : (1 : Int64).toInt = 1 := rfl
  omega
theorem d9 {ds : List Nat} (hd : ∀ d ∈ ds, d ≤ 9) {i : Nat} (q : i < ds.length) : ds.getD i 0 ≤ 9 := hd _ (by rw [List.getD_eq_getElem?_getD]; simp [q])
set_option maxRecDepth 65536 in
set_option maxHeartbeats 4000000 in
theorem lawC (l : Launch) (Z : State) (a0 : Array Value) (n0 : Nat) (h : Heap) (se fi : Int32) (lo hi : Int64) (hCS : CS Z) (hFM : FM Z) :
    Ct l Z a0 consts_1 tables_1 tables_1 n0 x code maxLocals ret room_1 #[.int se, .int fi, .long lo, .long hi] h (fun v _ => v = some (.int 1)) := by
  refine Ct.of_body pn7 (L0 := #[.val (.int se), .val (.int fi), .val (.long lo), .second, .val (.long hi), .second, .unset, .unset, .unset, .unset, .unset, .unset, .unset, .unset]) (fun m => ef_of rfl) (fun hEL hw hO => ?_)
  refine G.seg [(0, .iload_n 0, 1), (1, .bipush 15, 2), (3, .iand, 1), (4, .istore 6, 2)] (by decide +kernel) (pc' := 6) (L' := #[.val (.int se), .val (.int fi), .val (.long lo), .second, .val (.long hi), .second, .val (.int (se &&& (15 : Int32))), .unset, .unset, .unset, .unset, .unset, .unset, .unset]) (S' := []) rfl ?_
  refine G.seg [(6, .iload 6, 2)] (by decide +kernel) (pc' := 8) (L' := #[.val (.int se), .val (.int fi), .val (.long lo), .second, .val (.long hi), .second, .val (.int (se &&& (15 : Int32))), .unset, .unset, .unset, .unset, .unset, .unset, .unset]) (S' := [.int (se &&& (15 : Int32))]) rfl ?_
  refine G.ifne (o := (19)) (pc' := 27) (by decide +kernel) (by decide) rfl ?_ ?_
  · intro q1
    refine G.seg [(27, .iload 6, 2), (29, .bipush 11, 2)] (by decide +kernel) (pc' := 31) (L' := #[.val (.int se), .val (.int fi), .val (.long lo), .second, .val (.long hi), .second, .val (.int (se &&& (15 : Int32))), .unset, .unset, .unset, .unset, .unset, .unset, .unset]) (S' := [.int (11 : Int32), .int (se &&& (15 : Int32))]) rfl ?_
    refine G.join (fun n : Int32 => n = if (11 : Int32) < (se &&& (15 : Int32)) then (se &&& (15 : Int32)) + (6 : Int32) else se &&& (15 : Int32)) (fun n : Int32 => (h, 0, 0, 44, #[.val (.int se), .val (.int fi), .val (.long lo), .second, .val (.long hi), .second, .val (.int (se &&& (15 : Int32))), .unset, .unset, .unset, .unset, .unset, .unset, .unset], [.int n])) ?_ ?_
    · intro J2
      refine G.icgt (o := (8)) (pc' := 39) (by decide +kernel) (by decide) rfl ?_ ?_
      · intro q3
        refine G.seg [(39, .iload 6, 2), (41, .bipush 6, 2), (43, .iadd, 1)] (by decide +kernel) (pc' := 44) (L' := #[.val (.int se), .val (.int fi), .val (.long lo), .second, .val (.long hi), .second, .val (.int (se &&& (15 : Int32))), .unset, .unset, .unset, .unset, .unset, .unset, .unset]) (S' := [.int ((se &&& (15 : Int32)) + (6 : Int32))]) rfl ?_
        exact J2 _ ((if_pos q3).symm)
      · intro q3
        refine G.seg [(34, .iload 6, 2), (36, .goto 8, 3)] (by decide +kernel) (pc' := 44) (L' := #[.val (.int se), .val (.int fi), .val (.long lo), .second, .val (.long hi), .second, .val (.int (se &&& (15 : Int32))), .unset, .unset, .unset, .unset, .unset, .unset, .unset]) (S' := [.int (se &&& (15 : Int32))]) rfl ?_
        exact J2 _ ((if_neg q3).symm)
    rintro n en
    dsimp only
    have hn := nk se q1 n en
    obtain ⟨m, em, m1, m2⟩ := mN hn
    clear en
    subst em
    refine G.seg [(44, .istore 7, 2)] (by decide +kernel) (pc' := 46) (L' := #[.val (.int se), .val (.int fi), .val (.long lo), .second, .val (.long hi), .second, .val (.int (se &&& (15 : Int32))), .val (.int (Int32.ofNat m)), .unset, .unset, .unset, .unset, .unset, .unset]) (S' := []) rfl ?_
    refine G.seg [(46, .iconst 1, 1), (47, .iload_n 1, 1)] (by decide +kernel) (pc' := 48) (L' := #[.val (.int se), .val (.int fi), .val (.long lo), .second, .val (.long hi), .second, .val (.int (se &&& (15 : Int32))), .val (.int (Int32.ofNat m)), .unset, .unset, .unset, .unset, .unset, .unset]) (S' := [.int fi, .int (1 : Int32)]) rfl ?_
    refine G.ldcI (by decide +kernel) (tw 4 rfl) ?_
    refine G.seg [(50, .iand, 1), (51, .bipush 9, 2), (53, .irem, 1), (54, .iadd, 1)] (by decide +kernel) (pc' := 55) (L' := #[.val (.int se), .val (.int fi), .val (.long lo), .second, .val (.long hi), .second, .val (.int (se &&& (15 : Int32))), .val (.int (Int32.ofNat m)), .unset, .unset, .unset, .unset, .unset, .unset]) (S' := [.int ((1 : Int32) + ((fi &&& (2147483647 : Int32)) % (9 : Int32)))]) rfl ?_
    obtain ⟨d0, d01, d09, e0⟩ := rem9 fi
    rw [e0]
    refine G.seg [(55, .istore 8, 2)] (by decide +kernel) (pc' := 57) (L' := #[.val (.int se), .val (.int fi), .val (.long lo), .second, .val (.long hi), .second, .val (.int (se &&& (15 : Int32))), .val (.int (Int32.ofNat m)), .val (.int (Int32.ofNat d0)), .unset, .unset, .unset, .unset, .unset]) (S' := []) rfl ?_
    refine G.seg [(57, .bipush 21, 2)] (by decide +kernel) (pc' := 59) (L' := #[.val (.int se), .val (.int fi), .val (.long lo), .second, .val (.long hi), .second, .val (.int (se &&& (15 : Int32))), .val (.int (Int32.ofNat m)), .val (.int (Int32.ofNat d0)), .unset, .unset, .unset, .unset, .unset]) (S' := [.int (21 : Int32)]) rfl ?_
    refine G.newarr (aty := .char) (ty := .char) (cap := 21) rfl (by decide +kernel) (tw 5 rfl) (by decide) (lb rfl) (lb rfl) (lb rfl) (lb rfl) ?_
    intro h4 a4 k4 g4 n4 K4 A4
    refine G.seg [(61, .astore 9, 2)] (by decide +kernel) (pc' := 63) (L' := #[.val (.int se), .val (.int fi), .val (.long lo), .second, .val (.long hi), .second, .val (.int (se &&& (15 : Int32))), .val (.int (Int32.ofNat m)), .val (.int (Int32.ofNat d0)), .val (.ref a4), .unset, .unset, .unset, .unset]) (S' := []) rfl ?_
    refine G.seg [(63, .aload 9, 2), (65, .iconst 0, 1), (66, .bipush 48, 2), (68, .iload 8, 2), (70, .iadd, 1), (71, .i2c, 1)] (by decide +kernel) (pc' := 72) (L' := #[.val (.int se), .val (.int fi), .val (.long lo), .second, .val (.long hi), .second, .val (.int (se &&& (15 : Int32))), .val (.int (Int32.ofNat m)), .val (.int (Int32.ofNat d0)), .val (.ref a4), .unset, .unset, .unset, .unset]) (S' := [.int (((48 : Int32) + (Int32.ofNat d0)).toUInt32.toUInt16.toUInt32.toInt32), .int (0 : Int32), .ref a4]) rfl ?_
    rw [c48 d09]
    refine G.castore (i := 0) (x' := (chd d0)) (by decide +kernel) A4 n4 ⟨by decide, by decide⟩ rfl (lb rfl) (nar_b8 (b8c d09)) ?_
    intro h5 K5 A5
    have KA5 := Keep.trans K4 K5 (allS (Or.inr (Nat.le_of_eq g4.symm)) all0)
    replace A5 : Arv Z h5 a4 k4 .char (21 : Int32) [.int (chd d0), .int 0, .int 0, .int 0, .int 0, .int 0, .int 0, .int 0, .int 0, .int 0, .int 0, .int 0, .int 0, .int 0, .int 0, .int 0, .int 0, .int 0, .int 0, .int 0, .int 0] (.int 0) := A5
    refine G.seg [(73, .aload 9, 2), (75, .iconst 1, 1), (76, .lload_n 2, 1), (77, .iconst 0, 1)] (by decide +kernel) (pc' := 78) (L' := #[.val (.int se), .val (.int fi), .val (.long lo), .second, .val (.long hi), .second, .val (.int (se &&& (15 : Int32))), .val (.int (Int32.ofNat m)), .val (.int (Int32.ofNat d0)), .val (.ref a4), .unset, .unset, .unset, .unset]) (S' := [.int (0 : Int32), .long lo, .int (1 : Int32), .ref a4]) rfl ?_
    refine G.static (y := ⟨"com/example/mynah/mynah/FeedReaderPageSizePinLaw", "digit", "(JI)C"⟩) (argsL := [.long lo, .int (0 : Int32)]) (rest := [.int (1 : Int32), .ref a4]) (W := 2) (by decide +kernel) (tw 6 rfl) (tw 7 rfl) (tw 8 rfl) (tw 9 rfl) (by decide) ((digC l Z a0 n0 h5 lo 0).pays (tw 9 rfl) (tw 8 rfl) (lb rfl) (lb rfl)) (lenOf pd9 rfl) rfl (Nat.le_of_eq rfl) rfl (lb rfl) (lb rfl) ?_
    rintro _ h6 ⟨f1, rfl, rfl⟩
    refine G.castore (i := 1) (x' := (chd f1.val)) (by decide +kernel) A5 n4 ⟨by decide, by decide⟩ rfl (lb rfl) (nar_b8 (b8d f1)) ?_
    intro h7 K7 A7
    have KA7 := Keep.trans KA5 K7 (allS (Or.inr (Nat.le_of_eq g4.symm)) all0)
    replace A7 : Arv Z h7 a4 k4 .char (21 : Int32) [.int (chd d0), .int (chd f1.val), .int 0, .int 0, .int 0, .int 0, .int 0, .int 0, .int 0, .int 0, .int 0, .int 0, .int 0, .int 0, .int 0, .int 0, .int 0, .int 0, .int 0, .int 0, .int 0] (.int 0) := A7
    refine G.seg [(82, .aload 9, 2), (84, .iconst 2, 1), (85, .lload_n 2, 1), (86, .iconst 1, 1)] (by decide +kernel) (pc' := 87) (L' := #[.val (.int se), .val (.int fi), .val (.long lo), .second, .val (.long hi), .second, .val (.int (se &&& (15 : Int32))), .val (.int (Int32.ofNat m)), .val (.int (Int32.ofNat d0)), .val (.ref a4), .unset, .unset, .unset, .unset]) (S' := [.int (1 : Int32), .long lo, .int (2 : Int32), .ref a4]) rfl ?_
    refine G.static (y := ⟨"com/example/mynah/mynah/FeedReaderPageSizePinLaw", "digit", "(JI)C"⟩) (argsL := [.long lo, .int (1 : Int32)]) (rest := [.int (2 : Int32), .ref a4]) (W := 2) (by decide +kernel) (tw 6 rfl) (tw 7 rfl) (tw 8 rfl) (tw 9 rfl) (by decide) ((digC l Z a0 n0 h7 lo 1).pays (tw 9 rfl) (tw 8 rfl) (lb rfl) (lb rfl)) (lenOf pd9 rfl) rfl (Nat.le_of_eq rfl) rfl (lb rfl) (lb rfl) ?_
    rintro _ h8 ⟨f2, rfl, rfl⟩
    refine G.castore (i := 2) (x' := (chd f2.val)) (by decide +kernel) A7 n4 ⟨by decide, by decide⟩ rfl (lb rfl) (nar_b8 (b8d f2)) ?_
    intro h9 K9 A9
    have KA9 := Keep.trans KA7 K9 (allS (Or.inr (Nat.le_of_eq g4.symm)) all0)
    replace A9 : Arv Z h9 a4 k4 .char (21 : Int32) [.int (chd d0), .int (chd f1.val), .int (chd f2.val), .int 0, .int 0, .int 0, .int 0, .int 0, .int 0, .int 0, .int 0, .int 0, .int 0, .int 0, .int 0, .int 0, .int 0, .int 0, .int 0, .int 0, .int 0] (.int 0) := A9
    refine G.seg [(91, .aload 9, 2), (93, .iconst 3, 1), (94, .lload_n 2, 1), (95, .iconst 2, 1)] (by decide +kernel) (pc' := 96) (L' := #[.val (.int se), .val (.int fi), .val (.long lo), .second, .val (.long hi), .second, .val (.int (se &&& (15 : Int32))), .val (.int (Int32.ofNat m)), .val (.int (Int32.ofNat d0)), .val (.ref a4), .unset, .unset, .unset, .unset]) (S' := [.int (2 : Int32), .long lo, .int (3 : Int32), .ref a4]) rfl ?_
    refine G.static (y := ⟨"com/example/mynah/mynah/FeedReaderPageSizePinLaw", "digit", "(JI)C"⟩) (argsL := [.long lo, .int (2 : Int32)]) (rest := [.int (3 : Int32), .ref a4]) (W := 2) (by decide +kernel) (tw 6 rfl) (tw 7 rfl) (tw 8 rfl) (tw 9 rfl) (by decide) ((digC l Z a0 n0 h9 lo 2).pays (tw 9 rfl) (tw 8 rfl) (lb rfl) (lb rfl)) (lenOf pd9 rfl) rfl (Nat.le_of_eq rfl) rfl (lb rfl) (lb rfl) ?_
    rintro _ h10 ⟨f3, rfl, rfl⟩
    refine G.castore (i := 3) (x' := (chd f3.val)) (by decide +kernel) A9 n4 ⟨by decide, by decide⟩ rfl (lb rfl) (nar_b8 (b8d f3)) ?_
    intro h11 K11 A11
    have KA11 := Keep.trans KA9 K11 (allS (Or.inr (Nat.le_of_eq g4.symm)) all0)
    replace A11 : Arv Z h11 a4 k4 .char (21 : Int32) [.int (chd d0), .int (chd f1.val), .int (chd f2.val), .int (chd f3.val), .int 0, .int 0, .int 0, .int 0, .int 0, .int 0, .int 0, .int 0, .int 0, .int 0, .int 0, .int 0, .int 0, .int 0, .int 0, .int 0, .int 0] (.int 0) := A11
    refine G.seg [(100, .aload 9, 2), (102, .iconst 4, 1), (103, .lload_n 2, 1), (104, .iconst 3, 1)] (by decide +kernel) (pc' := 105) (L' := #[.val (.int se), .val (.int fi), .val (.long lo), .second, .val (.long hi), .second, .val (.int (se &&& (15 : Int32))), .val (.int (Int32.ofNat m)), .val (.int (Int32.ofNat d0)), .val (.ref a4), .unset, .unset, .unset, .unset]) (S' := [.int (3 : Int32), .long lo, .int (4 : Int32), .ref a4]) rfl ?_
    refine G.static (y := ⟨"com/example/mynah/mynah/FeedReaderPageSizePinLaw", "digit", "(JI)C"⟩) (argsL := [.long lo, .int (3 : Int32)]) (rest := [.int (4 : Int32), .ref a4]) (W := 2) (by decide +kernel) (tw 6 rfl) (tw 7 rfl) (tw 8 rfl) (tw 9 rfl) (by decide) ((digC l Z a0 n0 h11 lo 3).pays (tw 9 rfl) (tw 8 rfl) (lb rfl) (lb rfl)) (lenOf pd9 rfl) rfl (Nat.le_of_eq rfl) rfl (lb rfl) (lb rfl) ?_
    rintro _ h12 ⟨f4, rfl, rfl⟩
    refine G.castore (i := 4) (x' := (chd f4.val)) (by decide +kernel) A11 n4 ⟨by decide, by decide⟩ rfl (lb rfl) (nar_b8 (b8d f4)) ?_
    intro h13 K13 A13
    have KA13 := Keep.trans KA11 K13 (allS (Or.inr (Nat.le_of_eq g4.symm)) all0)
    replace A13 : Arv Z h13 a4 k4 .char (21 : Int32) [.int (chd d0), .int (chd f1.val), .int (chd f2.val), .int (chd f3.val), .int (chd f4.val), .int 0, .int 0, .int 0, .int 0, .int 0, .int 0, .int 0, .int 0, .int 0, .int 0, .int 0, .int 0, .int 0, .int 0, .int 0, .int 0] (.int 0) := A13
    refine G.seg [(109, .aload 9, 2), (111, .iconst 5, 1), (112, .lload_n 2, 1), (113, .iconst 4, 1)] (by decide +kernel) (pc' := 114) (L' := #[.val (.int se), .val (.int fi), .val (.long lo), .second, .val (.long hi), .second, .val (.int (se &&& (15 : Int32))), .val (.int (Int32.ofNat m)), .val (.int (Int32.ofNat d0)), .val (.ref a4), .unset, .unset, .unset, .unset]) (S' := [.int (4 : Int32), .long lo, .int (5 : Int32), .ref a4]) rfl ?_
    refine G.static (y := ⟨"com/example/mynah/mynah/FeedReaderPageSizePinLaw", "digit", "(JI)C"⟩) (argsL := [.long lo, .int (4 : Int32)]) (rest := [.int (5 : Int32), .ref a4]) (W := 2) (by decide +kernel) (tw 6 rfl) (tw 7 rfl) (tw 8 rfl) (tw 9 rfl) (by decide) ((digC l Z a0 n0 h13 lo 4).pays (tw 9 rfl) (tw 8 rfl) (lb rfl) (lb rfl)) (lenOf pd9 rfl) rfl (Nat.le_of_eq rfl) rfl (lb rfl) (lb rfl) ?_
    rintro _ h14 ⟨f5, rfl, rfl⟩
    refine G.castore (i := 5) (x' := (chd f5.val)) (by decide +kernel) A13 n4 ⟨by decide, by decide⟩ rfl (lb rfl) (nar_b8 (b8d f5)) ?_
    intro h15 K15 A15
    have KA15 := Keep.trans KA13 K15 (allS (Or.inr (Nat.le_of_eq g4.symm)) all0)
    replace A15 : Arv Z h15 a4 k4 .char (21 : Int32) [.int (chd d0), .int (chd f1.val), .int (chd f2.val), .int (chd f3.val), .int (chd f4.val), .int (chd f5.val), .int 0, .int 0, .int 0, .int 0, .int 0, .int 0, .int 0, .int 0, .int 0, .int 0, .int 0, .int 0, .int 0, .int 0, .int 0] (.int 0) := A15
    refine G.seg [(118, .aload 9, 2), (120, .bipush 6, 2), (122, .lload_n 2, 1), (123, .iconst 5, 1)] (by decide +kernel) (pc' := 124) (L' := #[.val (.int se), .val (.int fi), .val (.long lo), .second, .val (.long hi), .second, .val (.int (se &&& (15 : Int32))), .val (.int (Int32.ofNat m)), .val (.int (Int32.ofNat d0)), .val (.ref a4), .unset, .unset, .unset, .unset]) (S' := [.int (5 : Int32), .long lo, .int (6 : Int32), .ref a4]) rfl ?_
    refine G.static (y := ⟨"com/example/mynah/mynah/FeedReaderPageSizePinLaw", "digit", "(JI)C"⟩) (argsL := [.long lo, .int (5 : Int32)]) (rest := [.int (6 : Int32), .ref a4]) (W := 2) (by decide +kernel) (tw 6 rfl) (tw 7 rfl) (tw 8 rfl) (tw 9 rfl) (by decide) ((digC l Z a0 n0 h15 lo 5).pays (tw 9 rfl) (tw 8 rfl) (lb rfl) (lb rfl)) (lenOf pd9 rfl) rfl (Nat.le_of_eq rfl) rfl (lb rfl) (lb rfl) ?_
    rintro _ h16 ⟨f6, rfl, rfl⟩
    refine G.castore (i := 6) (x' := (chd f6.val)) (by decide +kernel) A15 n4 ⟨by decide, by decide⟩ rfl (lb rfl) (nar_b8 (b8d f6)) ?_
    intro h17 K17 A17
    have KA17 := Keep.trans KA15 K17 (allS (Or.inr (Nat.le_of_eq g4.symm)) all0)
    replace A17 : Arv Z h17 a4 k4 .char (21 : Int32) [.int (chd d0), .int (chd f1.val), .int (chd f2.val), .int (chd f3.val), .int (chd f4.val), .int (chd f5.val), .int (chd f6.val), .int 0, .int 0, .int 0, .int 0, .int 0, .int 0, .int 0, .int 0, .int 0, .int 0, .int 0, .int 0, .int 0, .int 0] (.int 0) := A17
    refine G.seg [(128, .aload 9, 2), (130, .bipush 7, 2), (132, .lload_n 2, 1), (133, .bipush 6, 2)] (by decide +kernel) (pc' := 135) (L' := #[.val (.int se), .val (.int fi), .val (.long lo), .second, .val (.long hi), .second, .val (.int (se &&& (15 : Int32))), .val (.int (Int32.ofNat m)), .val (.int (Int32.ofNat d0)), .val (.ref a4), .unset, .unset, .unset, .unset]) (S' := [.int (6 : Int32), .long lo, .int (7 : Int32), .ref a4]) rfl ?_
    refine G.static (y := ⟨"com/example/mynah/mynah/FeedReaderPageSizePinLaw", "digit", "(JI)C"⟩) (argsL := [.long lo, .int (6 : Int32)]) (rest := [.int (7 : Int32), .ref a4]) (W := 2) (by decide +kernel) (tw 6 rfl) (tw 7 rfl) (tw 8 rfl) (tw 9 rfl) (by decide) ((digC l Z a0 n0 h17 lo 6).pays (tw 9 rfl) (tw 8 rfl) (lb rfl) (lb rfl)) (lenOf pd9 rfl) rfl (Nat.le_of_eq rfl) rfl (lb rfl) (lb rfl) ?_
    rintro _ h18 ⟨f7, rfl, rfl⟩
    refine G.castore (i := 7) (x' := (chd f7.val)) (by decide +kernel) A17 n4 ⟨by decide, by decide⟩ rfl (lb rfl) (nar_b8 (b8d f7)) ?_
    intro h19 K19 A19
    have KA19 := Keep.trans KA17 K19 (allS (Or.inr (Nat.le_of_eq g4.symm)) all0)
    replace A19 : Arv Z h19 a4 k4 .char (21 : Int32) [.int (chd d0), .int (chd f1.val), .int (chd f2.val), .int (chd f3.val), .int (chd f4.val), .int (chd f5.val), .int (chd f6.val), .int (chd f7.val), .int 0, .int 0, .int 0, .int 0, .int 0, .int 0, .int 0, .int 0, .int 0, .int 0, .int 0, .int 0, .int 0] (.int 0) := A19
    refine G.seg [(139, .aload 9, 2), (141, .bipush 8, 2), (143, .lload_n 2, 1), (144, .bipush 7, 2)] (by decide +kernel) (pc' := 146) (L' := #[.val (.int se), .val (.int fi), .val (.long lo), .second, .val (.long hi), .second, .val (.int (se &&& (15 : Int32))), .val (.int (Int32.ofNat m)), .val (.int (Int32.ofNat d0)), .val (.ref a4), .unset, .unset, .unset, .unset]) (S' := [.int (7 : Int32), .long lo, .int (8 : Int32), .ref a4]) rfl ?_
    refine G.static (y := ⟨"com/example/mynah/mynah/FeedReaderPageSizePinLaw", "digit", "(JI)C"⟩) (argsL := [.long lo, .int (7 : Int32)]) (rest := [.int (8 : Int32), .ref a4]) (W := 2) (by decide +kernel) (tw 6 rfl) (tw 7 rfl) (tw 8 rfl) (tw 9 rfl) (by decide) ((digC l Z a0 n0 h19 lo 7).pays (tw 9 rfl) (tw 8 rfl) (lb rfl) (lb rfl)) (lenOf pd9 rfl) rfl (Nat.le_of_eq rfl) rfl (lb rfl) (lb rfl) ?_
    rintro _ h20 ⟨f8, rfl, rfl⟩
    refine G.castore (i := 8) (x' := (chd f8.val)) (by decide +kernel) A19 n4 ⟨by decide, by decide⟩ rfl (lb rfl) (nar_b8 (b8d f8)) ?_
    intro h21 K21 A21
    have KA21 := Keep.trans KA19 K21 (allS (Or.inr (Nat.le_of_eq g4.symm)) all0)
    replace A21 : Arv Z h21 a4 k4 .char (21 : Int32) [.int (chd d0), .int (chd f1.val), .int (chd f2.val), .int (chd f3.val), .int (chd f4.val), .int (chd f5.val), .int (chd f6.val), .int (chd f7.val), .int (chd f8.val), .int 0, .int 0, .int 0, .int 0, .int 0, .int 0, .int 0, .int 0, .int 0, .int 0, .int 0, .int 0] (.int 0) := A21
    refine G.seg [(150, .aload 9, 2), (152, .bipush 9, 2), (154, .lload_n 2, 1), (155, .bipush 8, 2)] (by decide +kernel) (pc' := 157) (L' := #[.val (.int se), .val (.int fi), .val (.long lo), .second, .val (.long hi), .second, .val (.int (se &&& (15 : Int32))), .val (.int (Int32.ofNat m)), .val (.int (Int32.ofNat d0)), .val (.ref a4), .unset, .unset, .unset, .unset]) (S' := [.int (8 : Int32), .long lo, .int (9 : Int32), .ref a4]) rfl ?_
    refine G.static (y := ⟨"com/example/mynah/mynah/FeedReaderPageSizePinLaw", "digit", "(JI)C"⟩) (argsL := [.long lo, .int (8 : Int32)]) (rest := [.int (9 : Int32), .ref a4]) (W := 2) (by decide +kernel) (tw 6 rfl) (tw 7 rfl) (tw 8 rfl) (tw 9 rfl) (by decide) ((digC l Z a0 n0 h21 lo 8).pays (tw 9 rfl) (tw 8 rfl) (lb rfl) (lb rfl)) (lenOf pd9 rfl) rfl (Nat.le_of_eq rfl) rfl (lb rfl) (lb rfl) ?_
    rintro _ h22 ⟨f9, rfl, rfl⟩
    refine G.castore (i := 9) (x' := (chd f9.val)) (by decide +kernel) A21 n4 ⟨by decide, by decide⟩ rfl (lb rfl) (nar_b8 (b8d f9)) ?_
    intro h23 K23 A23
    have KA23 := Keep.trans KA21 K23 (allS (Or.inr (Nat.le_of_eq g4.symm)) all0)
    replace A23 : Arv Z h23 a4 k4 .char (21 : Int32) [.int (chd d0), .int (chd f1.val), .int (chd f2.val), .int (chd f3.val), .int (chd f4.val), .int (chd f5.val), .int (chd f6.val), .int (chd f7.val), .int (chd f8.val), .int (chd f9.val), .int 0, .int 0, .int 0, .int 0, .int 0, .int 0, .int 0, .int 0, .int 0, .int 0, .int 0] (.int 0) := A23
    refine G.seg [(161, .aload 9, 2), (163, .bipush 10, 2), (165, .lload_n 2, 1), (166, .bipush 9, 2)] (by decide +kernel) (pc' := 168) (L' := #[.val (.int se), .val (.int fi), .val (.long lo), .second, .val (.long hi), .second, .val (.int (se &&& (15 : Int32))), .val (.int (Int32.ofNat m)), .val (.int (Int32.ofNat d0)), .val (.ref a4), .unset, .unset, .unset, .unset]) (S' := [.int (9 : Int32), .long lo, .int (10 : Int32), .ref a4]) rfl ?_
    refine G.static (y := ⟨"com/example/mynah/mynah/FeedReaderPageSizePinLaw", "digit", "(JI)C"⟩) (argsL := [.long lo, .int (9 : Int32)]) (rest := [.int (10 : Int32), .ref a4]) (W := 2) (by decide +kernel) (tw 6 rfl) (tw 7 rfl) (tw 8 rfl) (tw 9 rfl) (by decide) ((digC l Z a0 n0 h23 lo 9).pays (tw 9 rfl) (tw 8 rfl) (lb rfl) (lb rfl)) (lenOf pd9 rfl) rfl (Nat.le_of_eq rfl) rfl (lb rfl) (lb rfl) ?_
    rintro _ h24 ⟨f10, rfl, rfl⟩
    refine G.castore (i := 10) (x' := (chd f10.val)) (by decide +kernel) A23 n4 ⟨by decide, by decide⟩ rfl (lb rfl) (nar_b8 (b8d f10)) ?_
    intro h25 K25 A25
    have KA25 := Keep.trans KA23 K25 (allS (Or.inr (Nat.le_of_eq g4.symm)) all0)
    replace A25 : Arv Z h25 a4 k4 .char (21 : Int32) [.int (chd d0), .int (chd f1.val), .int (chd f2.val), .int (chd f3.val), .int (chd f4.val), .int (chd f5.val), .int (chd f6.val), .int (chd f7.val), .int (chd f8.val), .int (chd f9.val), .int (chd f10.val), .int 0, .int 0, .int 0, .int 0, .int 0, .int 0, .int 0, .int 0, .int 0, .int 0] (.int 0) := A25
    refine G.seg [(172, .aload 9, 2), (174, .bipush 11, 2), (176, .lload_n 2, 1), (177, .bipush 10, 2)] (by decide +kernel) (pc' := 179) (L' := #[.val (.int se), .val (.int fi), .val (.long lo), .second, .val (.long hi), .second, .val (.int (se &&& (15 : Int32))), .val (.int (Int32.ofNat m)), .val (.int (Int32.ofNat d0)), .val (.ref a4), .unset, .unset, .unset, .unset]) (S' := [.int (10 : Int32), .long lo, .int (11 : Int32), .ref a4]) rfl ?_
    refine G.static (y := ⟨"com/example/mynah/mynah/FeedReaderPageSizePinLaw", "digit", "(JI)C"⟩) (argsL := [.long lo, .int (10 : Int32)]) (rest := [.int (11 : Int32), .ref a4]) (W := 2) (by decide +kernel) (tw 6 rfl) (tw 7 rfl) (tw 8 rfl) (tw 9 rfl) (by decide) ((digC l Z a0 n0 h25 lo 10).pays (tw 9 rfl) (tw 8 rfl) (lb rfl) (lb rfl)) (lenOf pd9 rfl) rfl (Nat.le_of_eq rfl) rfl (lb rfl) (lb rfl) ?_
    rintro _ h26 ⟨f11, rfl, rfl⟩
    refine G.castore (i := 11) (x' := (chd f11.val)) (by decide +kernel) A25 n4 ⟨by decide, by decide⟩ rfl (lb rfl) (nar_b8 (b8d f11)) ?_
    intro h27 K27 A27
    have KA27 := Keep.trans KA25 K27 (allS (Or.inr (Nat.le_of_eq g4.symm)) all0)
    replace A27 : Arv Z h27 a4 k4 .char (21 : Int32) [.int (chd d0), .int (chd f1.val), .int (chd f2.val), .int (chd f3.val), .int (chd f4.val), .int (chd f5.val), .int (chd f6.val), .int (chd f7.val), .int (chd f8.val), .int (chd f9.val), .int (chd f10.val), .int (chd f11.val), .int 0, .int 0, .int 0, .int 0, .int 0, .int 0, .int 0, .int 0, .int 0] (.int 0) := A27
    refine G.seg [(183, .aload 9, 2), (185, .bipush 12, 2), (187, .lload_n 2, 1), (188, .bipush 11, 2)] (by decide +kernel) (pc' := 190) (L' := #[.val (.int se), .val (.int fi), .val (.long lo), .second, .val (.long hi), .second, .val (.int (se &&& (15 : Int32))), .val (.int (Int32.ofNat m)), .val (.int (Int32.ofNat d0)), .val (.ref a4), .unset, .unset, .unset, .unset]) (S' := [.int (11 : Int32), .long lo, .int (12 : Int32), .ref a4]) rfl ?_
    refine G.static (y := ⟨"com/example/mynah/mynah/FeedReaderPageSizePinLaw", "digit", "(JI)C"⟩) (argsL := [.long lo, .int (11 : Int32)]) (rest := [.int (12 : Int32), .ref a4]) (W := 2) (by decide +kernel) (tw 6 rfl) (tw 7 rfl) (tw 8 rfl) (tw 9 rfl) (by decide) ((digC l Z a0 n0 h27 lo 11).pays (tw 9 rfl) (tw 8 rfl) (lb rfl) (lb rfl)) (lenOf pd9 rfl) rfl (Nat.le_of_eq rfl) rfl (lb rfl) (lb rfl) ?_
    rintro _ h28 ⟨f12, rfl, rfl⟩
    refine G.castore (i := 12) (x' := (chd f12.val)) (by decide +kernel) A27 n4 ⟨by decide, by decide⟩ rfl (lb rfl) (nar_b8 (b8d f12)) ?_
    intro h29 K29 A29
    have KA29 := Keep.trans KA27 K29 (allS (Or.inr (Nat.le_of_eq g4.symm)) all0)
    replace A29 : Arv Z h29 a4 k4 .char (21 : Int32) [.int (chd d0), .int (chd f1.val), .int (chd f2.val), .int (chd f3.val), .int (chd f4.val), .int (chd f5.val), .int (chd f6.val), .int (chd f7.val), .int (chd f8.val), .int (chd f9.val), .int (chd f10.val), .int (chd f11.val), .int (chd f12.val), .int 0, .int 0, .int 0, .int 0, .int 0, .int 0, .int 0, .int 0] (.int 0) := A29
    refine G.seg [(194, .aload 9, 2), (196, .bipush 13, 2), (198, .lload_n 2, 1), (199, .bipush 12, 2)] (by decide +kernel) (pc' := 201) (L' := #[.val (.int se), .val (.int fi), .val (.long lo), .second, .val (.long hi), .second, .val (.int (se &&& (15 : Int32))), .val (.int (Int32.ofNat m)), .val (.int (Int32.ofNat d0)), .val (.ref a4), .unset, .unset, .unset, .unset]) (S' := [.int (12 : Int32), .long lo, .int (13 : Int32), .ref a4]) rfl ?_
    refine G.static (y := ⟨"com/example/mynah/mynah/FeedReaderPageSizePinLaw", "digit", "(JI)C"⟩) (argsL := [.long lo, .int (12 : Int32)]) (rest := [.int (13 : Int32), .ref a4]) (W := 2) (by decide +kernel) (tw 6 rfl) (tw 7 rfl) (tw 8 rfl) (tw 9 rfl) (by decide) ((digC l Z a0 n0 h29 lo 12).pays (tw 9 rfl) (tw 8 rfl) (lb rfl) (lb rfl)) (lenOf pd9 rfl) rfl (Nat.le_of_eq rfl) rfl (lb rfl) (lb rfl) ?_
    rintro _ h30 ⟨f13, rfl, rfl⟩
    refine G.castore (i := 13) (x' := (chd f13.val)) (by decide +kernel) A29 n4 ⟨by decide, by decide⟩ rfl (lb rfl) (nar_b8 (b8d f13)) ?_
    intro h31 K31 A31
    have KA31 := Keep.trans KA29 K31 (allS (Or.inr (Nat.le_of_eq g4.symm)) all0)
    replace A31 : Arv Z h31 a4 k4 .char (21 : Int32) [.int (chd d0), .int (chd f1.val), .int (chd f2.val), .int (chd f3.val), .int (chd f4.val), .int (chd f5.val), .int (chd f6.val), .int (chd f7.val), .int (chd f8.val), .int (chd f9.val), .int (chd f10.val), .int (chd f11.val), .int (chd f12.val), .int (chd f13.val), .int 0, .int 0, .int 0, .int 0, .int 0, .int 0, .int 0] (.int 0) := A31
    refine G.seg [(205, .aload 9, 2), (207, .bipush 14, 2), (209, .lload_n 2, 1), (210, .bipush 13, 2)] (by decide +kernel) (pc' := 212) (L' := #[.val (.int se), .val (.int fi), .val (.long lo), .second, .val (.long hi), .second, .val (.int (se &&& (15 : Int32))), .val (.int (Int32.ofNat m)), .val (.int (Int32.ofNat d0)), .val (.ref a4), .unset, .unset, .unset, .unset]) (S' := [.int (13 : Int32), .long lo, .int (14 : Int32), .ref a4]) rfl ?_
    refine G.static (y := ⟨"com/example/mynah/mynah/FeedReaderPageSizePinLaw", "digit", "(JI)C"⟩) (argsL := [.long lo, .int (13 : Int32)]) (rest := [.int (14 : Int32), .ref a4]) (W := 2) (by decide +kernel) (tw 6 rfl) (tw 7 rfl) (tw 8 rfl) (tw 9 rfl) (by decide) ((digC l Z a0 n0 h31 lo 13).pays (tw 9 rfl) (tw 8 rfl) (lb rfl) (lb rfl)) (lenOf pd9 rfl) rfl (Nat.le_of_eq rfl) rfl (lb rfl) (lb rfl) ?_
    rintro _ h32 ⟨f14, rfl, rfl⟩
    refine G.castore (i := 14) (x' := (chd f14.val)) (by decide +kernel) A31 n4 ⟨by decide, by decide⟩ rfl (lb rfl) (nar_b8 (b8d f14)) ?_
    intro h33 K33 A33
    have KA33 := Keep.trans KA31 K33 (allS (Or.inr (Nat.le_of_eq g4.symm)) all0)
    replace A33 : Arv Z h33 a4 k4 .char (21 : Int32) [.int (chd d0), .int (chd f1.val), .int (chd f2.val), .int (chd f3.val), .int (chd f4.val), .int (chd f5.val), .int (chd f6.val), .int (chd f7.val), .int (chd f8.val), .int (chd f9.val), .int (chd f10.val), .int (chd f11.val), .int (chd f12.val), .int (chd f13.val), .int (chd f14.val), .int 0, .int 0, .int 0, .int 0, .int 0, .int 0] (.int 0) := A33
    refine G.seg [(216, .aload 9, 2), (218, .bipush 15, 2), (220, .lload_n 2, 1), (221, .bipush 14, 2)] (by decide +kernel) (pc' := 223) (L' := #[.val (.int se), .val (.int fi), .val (.long lo), .second, .val (.long hi), .second, .val (.int (se &&& (15 : Int32))), .val (.int (Int32.ofNat m)), .val (.int (Int32.ofNat d0)), .val (.ref a4), .unset, .unset, .unset, .unset]) (S' := [.int (14 : Int32), .long lo, .int (15 : Int32), .ref a4]) rfl ?_
    refine G.static (y := ⟨"com/example/mynah/mynah/FeedReaderPageSizePinLaw", "digit", "(JI)C"⟩) (argsL := [.long lo, .int (14 : Int32)]) (rest := [.int (15 : Int32), .ref a4]) (W := 2) (by decide +kernel) (tw 6 rfl) (tw 7 rfl) (tw 8 rfl) (tw 9 rfl) (by decide) ((digC l Z a0 n0 h33 lo 14).pays (tw 9 rfl) (tw 8 rfl) (lb rfl) (lb rfl)) (lenOf pd9 rfl) rfl (Nat.le_of_eq rfl) rfl (lb rfl) (lb rfl) ?_
    rintro _ h34 ⟨f15, rfl, rfl⟩
    refine G.castore (i := 15) (x' := (chd f15.val)) (by decide +kernel) A33 n4 ⟨by decide, by decide⟩ rfl (lb rfl) (nar_b8 (b8d f15)) ?_
    intro h35 K35 A35
    have KA35 := Keep.trans KA33 K35 (allS (Or.inr (Nat.le_of_eq g4.symm)) all0)
    replace A35 : Arv Z h35 a4 k4 .char (21 : Int32) [.int (chd d0), .int (chd f1.val), .int (chd f2.val), .int (chd f3.val), .int (chd f4.val), .int (chd f5.val), .int (chd f6.val), .int (chd f7.val), .int (chd f8.val), .int (chd f9.val), .int (chd f10.val), .int (chd f11.val), .int (chd f12.val), .int (chd f13.val), .int (chd f14.val), .int (chd f15.val), .int 0, .int 0, .int 0, .int 0, .int 0] (.int 0) := A35
    refine G.seg [(227, .aload 9, 2), (229, .bipush 16, 2), (231, .lload_n 2, 1), (232, .bipush 15, 2)] (by decide +kernel) (pc' := 234) (L' := #[.val (.int se), .val (.int fi), .val (.long lo), .second, .val (.long hi), .second, .val (.int (se &&& (15 : Int32))), .val (.int (Int32.ofNat m)), .val (.int (Int32.ofNat d0)), .val (.ref a4), .unset, .unset, .unset, .unset]) (S' := [.int (15 : Int32), .long lo, .int (16 : Int32), .ref a4]) rfl ?_
    refine G.static (y := ⟨"com/example/mynah/mynah/FeedReaderPageSizePinLaw", "digit", "(JI)C"⟩) (argsL := [.long lo, .int (15 : Int32)]) (rest := [.int (16 : Int32), .ref a4]) (W := 2) (by decide +kernel) (tw 6 rfl) (tw 7 rfl) (tw 8 rfl) (tw 9 rfl) (by decide) ((digC l Z a0 n0 h35 lo 15).pays (tw 9 rfl) (tw 8 rfl) (lb rfl) (lb rfl)) (lenOf pd9 rfl) rfl (Nat.le_of_eq rfl) rfl (lb rfl) (lb rfl) ?_
    rintro _ h36 ⟨f16, rfl, rfl⟩
    refine G.castore (i := 16) (x' := (chd f16.val)) (by decide +kernel) A35 n4 ⟨by decide, by decide⟩ rfl (lb rfl) (nar_b8 (b8d f16)) ?_
    intro h37 K37 A37
    have KA37 := Keep.trans KA35 K37 (allS (Or.inr (Nat.le_of_eq g4.symm)) all0)
    replace A37 : Arv Z h37 a4 k4 .char (21 : Int32) [.int (chd d0), .int (chd f1.val), .int (chd f2.val), .int (chd f3.val), .int (chd f4.val), .int (chd f5.val), .int (chd f6.val), .int (chd f7.val), .int (chd f8.val), .int (chd f9.val), .int (chd f10.val), .int (chd f11.val), .int (chd f12.val), .int (chd f13.val), .int (chd f14.val), .int (chd f15.val), .int (chd f16.val), .int 0, .int 0, .int 0, .int 0] (.int 0) := A37
    refine G.seg [(238, .aload 9, 2), (240, .bipush 17, 2), (242, .lload 4, 2), (244, .iconst 0, 1)] (by decide +kernel) (pc' := 245) (L' := #[.val (.int se), .val (.int fi), .val (.long lo), .second, .val (.long hi), .second, .val (.int (se &&& (15 : Int32))), .val (.int (Int32.ofNat m)), .val (.int (Int32.ofNat d0)), .val (.ref a4), .unset, .unset, .unset, .unset]) (S' := [.int (0 : Int32), .long hi, .int (17 : Int32), .ref a4]) rfl ?_
    refine G.static (y := ⟨"com/example/mynah/mynah/FeedReaderPageSizePinLaw", "digit", "(JI)C"⟩) (argsL := [.long hi, .int (0 : Int32)]) (rest := [.int (17 : Int32), .ref a4]) (W := 2) (by decide +kernel) (tw 6 rfl) (tw 7 rfl) (tw 8 rfl) (tw 9 rfl) (by decide) ((digC l Z a0 n0 h37 hi 0).pays (tw 9 rfl) (tw 8 rfl) (lb rfl) (lb rfl)) (lenOf pd9 rfl) rfl (Nat.le_of_eq rfl) rfl (lb rfl) (lb rfl) ?_
    rintro _ h38 ⟨f17, rfl, rfl⟩
    refine G.castore (i := 17) (x' := (chd f17.val)) (by decide +kernel) A37 n4 ⟨by decide, by decide⟩ rfl (lb rfl) (nar_b8 (b8d f17)) ?_
    intro h39 K39 A39
    have KA39 := Keep.trans KA37 K39 (allS (Or.inr (Nat.le_of_eq g4.symm)) all0)
    replace A39 : Arv Z h39 a4 k4 .char (21 : Int32) [.int (chd d0), .int (chd f1.val), .int (chd f2.val), .int (chd f3.val), .int (chd f4.val), .int (chd f5.val), .int (chd f6.val), .int (chd f7.val), .int (chd f8.val), .int (chd f9.val), .int (chd f10.val), .int (chd f11.val), .int (chd f12.val), .int (chd f13.val), .int (chd f14.val), .int (chd f15.val), .int (chd f16.val), .int (chd f17.val), .int 0, .int 0, .int 0] (.int 0) := A39
    refine G.seg [(249, .aload 9, 2), (251, .bipush 18, 2), (253, .lload 4, 2), (255, .iconst 1, 1)] (by decide +kernel) (pc' := 256) (L' := #[.val (.int se), .val (.int fi), .val (.long lo), .second, .val (.long hi), .second, .val (.int (se &&& (15 : Int32))), .val (.int (Int32.ofNat m)), .val (.int (Int32.ofNat d0)), .val (.ref a4), .unset, .unset, .unset, .unset]) (S' := [.int (1 : Int32), .long hi, .int (18 : Int32), .ref a4]) rfl ?_
    refine G.static (y := ⟨"com/example/mynah/mynah/FeedReaderPageSizePinLaw", "digit", "(JI)C"⟩) (argsL := [.long hi, .int (1 : Int32)]) (rest := [.int (18 : Int32), .ref a4]) (W := 2) (by decide +kernel) (tw 6 rfl) (tw 7 rfl) (tw 8 rfl) (tw 9 rfl) (by decide) ((digC l Z a0 n0 h39 hi 1).pays (tw 9 rfl) (tw 8 rfl) (lb rfl) (lb rfl)) (lenOf pd9 rfl) rfl (Nat.le_of_eq rfl) rfl (lb rfl) (lb rfl) ?_
    rintro _ h40 ⟨f18, rfl, rfl⟩
    refine G.castore (i := 18) (x' := (chd f18.val)) (by decide +kernel) A39 n4 ⟨by decide, by decide⟩ rfl (lb rfl) (nar_b8 (b8d f18)) ?_
    intro h41 K41 A41
    have KA41 := Keep.trans KA39 K41 (allS (Or.inr (Nat.le_of_eq g4.symm)) all0)
    replace A41 : Arv Z h41 a4 k4 .char (21 : Int32) [.int (chd d0), .int (chd f1.val), .int (chd f2.val), .int (chd f3.val), .int (chd f4.val), .int (chd f5.val), .int (chd f6.val), .int (chd f7.val), .int (chd f8.val), .int (chd f9.val), .int (chd f10.val), .int (chd f11.val), .int (chd f12.val), .int (chd f13.val), .int (chd f14.val), .int (chd f15.val), .int (chd f16.val), .int (chd f17.val), .int (chd f18.val), .int 0, .int 0] (.int 0) := A41
    refine G.seg [(260, .aload 9, 2), (262, .bipush 19, 2), (264, .lload 4, 2), (266, .iconst 2, 1)] (by decide +kernel) (pc' := 267) (L' := #[.val (.int se), .val (.int fi), .val (.long lo), .second, .val (.long hi), .second, .val (.int (se &&& (15 : Int32))), .val (.int (Int32.ofNat m)), .val (.int (Int32.ofNat d0)), .val (.ref a4), .unset, .unset, .unset, .unset]) (S' := [.int (2 : Int32), .long hi, .int (19 : Int32), .ref a4]) rfl ?_
    refine G.static (y := ⟨"com/example/mynah/mynah/FeedReaderPageSizePinLaw", "digit", "(JI)C"⟩) (argsL := [.long hi, .int (2 : Int32)]) (rest := [.int (19 : Int32), .ref a4]) (W := 2) (by decide +kernel) (tw 6 rfl) (tw 7 rfl) (tw 8 rfl) (tw 9 rfl) (by decide) ((digC l Z a0 n0 h41 hi 2).pays (tw 9 rfl) (tw 8 rfl) (lb rfl) (lb rfl)) (lenOf pd9 rfl) rfl (Nat.le_of_eq rfl) rfl (lb rfl) (lb rfl) ?_
    rintro _ h42 ⟨f19, rfl, rfl⟩
    refine G.castore (i := 19) (x' := (chd f19.val)) (by decide +kernel) A41 n4 ⟨by decide, by decide⟩ rfl (lb rfl) (nar_b8 (b8d f19)) ?_
    intro h43 K43 A43
    have KA43 := Keep.trans KA41 K43 (allS (Or.inr (Nat.le_of_eq g4.symm)) all0)
    replace A43 : Arv Z h43 a4 k4 .char (21 : Int32) [.int (chd d0), .int (chd f1.val), .int (chd f2.val), .int (chd f3.val), .int (chd f4.val), .int (chd f5.val), .int (chd f6.val), .int (chd f7.val), .int (chd f8.val), .int (chd f9.val), .int (chd f10.val), .int (chd f11.val), .int (chd f12.val), .int (chd f13.val), .int (chd f14.val), .int (chd f15.val), .int (chd f16.val), .int (chd f17.val), .int (chd f18.val), .int (chd f19.val), .int 0] (.int 0) := A43
    refine G.seg [(271, .aload 9, 2), (273, .bipush 20, 2), (275, .lload 4, 2), (277, .iconst 3, 1)] (by decide +kernel) (pc' := 278) (L' := #[.val (.int se), .val (.int fi), .val (.long lo), .second, .val (.long hi), .second, .val (.int (se &&& (15 : Int32))), .val (.int (Int32.ofNat m)), .val (.int (Int32.ofNat d0)), .val (.ref a4), .unset, .unset, .unset, .unset]) (S' := [.int (3 : Int32), .long hi, .int (20 : Int32), .ref a4]) rfl ?_
    refine G.static (y := ⟨"com/example/mynah/mynah/FeedReaderPageSizePinLaw", "digit", "(JI)C"⟩) (argsL := [.long hi, .int (3 : Int32)]) (rest := [.int (20 : Int32), .ref a4]) (W := 2) (by decide +kernel) (tw 6 rfl) (tw 7 rfl) (tw 8 rfl) (tw 9 rfl) (by decide) ((digC l Z a0 n0 h43 hi 3).pays (tw 9 rfl) (tw 8 rfl) (lb rfl) (lb rfl)) (lenOf pd9 rfl) rfl (Nat.le_of_eq rfl) rfl (lb rfl) (lb rfl) ?_
    rintro _ h44 ⟨f20, rfl, rfl⟩
    refine G.castore (i := 20) (x' := (chd f20.val)) (by decide +kernel) A43 n4 ⟨by decide, by decide⟩ rfl (lb rfl) (nar_b8 (b8d f20)) ?_
    intro h45 K45 A45
    have KA45 := Keep.trans KA43 K45 (allS (Or.inr (Nat.le_of_eq g4.symm)) all0)
    replace A45 : Arv Z h45 a4 k4 .char (21 : Int32) [.int (chd d0), .int (chd f1.val), .int (chd f2.val), .int (chd f3.val), .int (chd f4.val), .int (chd f5.val), .int (chd f6.val), .int (chd f7.val), .int (chd f8.val), .int (chd f9.val), .int (chd f10.val), .int (chd f11.val), .int (chd f12.val), .int (chd f13.val), .int (chd f14.val), .int (chd f15.val), .int (chd f16.val), .int (chd f17.val), .int (chd f18.val), .int (chd f19.val), .int (chd f20.val)] (.int 0) := A45
    refine G.seg [(282, .iload 7, 2)] (by decide +kernel) (pc' := 284) (L' := #[.val (.int se), .val (.int fi), .val (.long lo), .second, .val (.long hi), .second, .val (.int (se &&& (15 : Int32))), .val (.int (Int32.ofNat m)), .val (.int (Int32.ofNat d0)), .val (.ref a4), .unset, .unset, .unset, .unset]) (S' := [.int (Int32.ofNat m)]) rfl ?_
    obtain ⟨ds, eds⟩ : ∃ z : List Nat, z = [d0, f1.val, f2.val, f3.val, f4.val, f5.val, f6.val, f7.val, f8.val, f9.val, f10.val, f11.val, f12.val, f13.val, f14.val, f15.val, f16.val, f17.val, f18.val, f19.val, f20.val] := ⟨_, rfl⟩
    have AL0 : Arv Z h45 a4 k4 .char 21 ((ds.map chd).map Value.int) (.int 0) := by rw [eds]; exact A45
    have h21 : ds.length = 21 := by rw [eds]; rfl
    have hd : ∀ d ∈ ds, d ≤ 9 := by rw [eds]; intro d hd; simp only [List.mem_cons, List.not_mem_nil, or_false] at hd; rcases hd with rfl | rfl | rfl | rfl | rfl | rfl | rfl | rfl | rfl | rfl | rfl | rfl | rfl | rfl | rfl | rfl | rfl | rfl | rfl | rfl | rfl <;> omega
    have h00 : ds.getD 0 0 = d0 := by rw [eds]; rfl
    have h0g : 1 ≤ ds.getD 0 0 := by rw [h00]; exact d01
    obtain ⟨cs, ecs⟩ : ∃ z, z = ds.map chd := ⟨_, rfl⟩
    have hc21 : cs.length = 21 := by rw [ecs, List.length_map]; exact h21
    rw [← ecs] at AL0
    have hlat : lat cs := by rw [ecs]; exact latd hd
    clear eds
    refine G.static (y := ⟨"com/example/mynah/mynah/FeedReaderPageSizePinLaw", "make", "(I)[C"⟩) (argsL := [.int (Int32.ofNat m)]) (rest := []) (W := 0) (by decide +kernel) (tw 11 rfl) (tw 12 rfl) (tw 8 rfl) (tw 13 rfl) (by decide) ((makeC l Z a0 n0 h45 (Int32.ofNat m) hn).pays (tw 13 rfl) (tw 8 rfl) (lb rfl) (lb rfl)) (lenOf pd10 rfl) rfl (Nat.le_of_eq rfl) rfl (lb rfl) (lb rfl) ?_
    rintro _ h46 ⟨s, ks, rfl, Ks, ns, gs, SA0⟩
    refine G.seg [(287, .astore 10, 2)] (by decide +kernel) (pc' := 289) (L' := #[.val (.int se), .val (.int fi), .val (.long lo), .second, .val (.long hi), .second, .val (.int (se &&& (15 : Int32))), .val (.int (Int32.ofNat m)), .val (.int (Int32.ofNat d0)), .val (.ref a4), .val (.ref s), .unset, .unset, .unset]) (S' := []) rfl ?_
    refine G.seg [(289, .aload 10, 2), (291, .iconst 0, 1), (292, .aload 9, 2), (294, .iconst 0, 1)] (by decide +kernel) (pc' := 295) (L' := #[.val (.int se), .val (.int fi), .val (.long lo), .second, .val (.long hi), .second, .val (.int (se &&& (15 : Int32))), .val (.int (Int32.ofNat m)), .val (.int (Int32.ofNat d0)), .val (.ref a4), .val (.ref s), .unset, .unset, .unset]) (S' := [.int (0 : Int32), .ref a4, .int (0 : Int32), .ref s]) rfl ?_
    have nas : a4 ≠ s := Nat.ne_of_lt (Nat.lt_of_lt_of_le AL0.lt gs)
    have AL := AL0.keep Ks nin0
    refine G.caload (v := .int (cs.getD 0 0)) (by decide +kernel) AL ⟨by decide, by decide⟩ (gv cs 0) ?_
    refine G.castore (i := 0) (x' := cs.getD 0 0) (by decide +kernel) (sto (i := 0) (SA0 : Arv Z h46 s ks .char (Int32.ofNat m) ((cs.take 0).map Value.int) (.int 0))) ns ⟨by decide, (nlt2 (i := 0) m2 (by decide)).mpr m1⟩ rfl (stl (cs := cs) (i := 0) (by rw [hc21]; decide)) (nar_b8 (lat_getD hlat 0)) ?_
    intro h47 K47 A47
    rw [tk (cs := cs) (i := 0) (by rw [hc21]; decide)] at A47
    have KT47 : Keep h46 h47 [s] := Keep.trans (Keep.refl h46 [s]) K47 (allS (Or.inl (List.mem_singleton.mpr rfl)) all0)
    have SAx1 : Arv Z h47 s ks .char (Int32.ofNat m) ((cs.take (min 1 m)).map Value.int) (.int 0) := by rw [show min 1 m = 1 from by omega]; exact A47
    have KSx1 := KT47
    refine G.seg [(297, .aload 10, 2)] (by decide +kernel) (pc' := 299) (L' := #[.val (.int se), .val (.int fi), .val (.long lo), .second, .val (.long hi), .second, .val (.int (se &&& (15 : Int32))), .val (.int (Int32.ofNat m)), .val (.int (Int32.ofNat d0)), .val (.ref a4), .val (.ref s), .unset, .unset, .unset]) (S' := [.ref s]) rfl ?_
    refine G.arrlen (by decide +kernel) SAx1 ?_
    refine G.seg [(300, .iconst 1, 1)] (by decide +kernel) (pc' := 301) (L' := #[.val (.int se), .val (.int fi), .val (.long lo), .second, .val (.long hi), .second, .val (.int (se &&& (15 : Int32))), .val (.int (Int32.ofNat m)), .val (.int (Int32.ofNat d0)), .val (.ref a4), .val (.ref s), .unset, .unset, .unset]) (S' := [.int (1 : Int32), .int (Int32.ofNat m)]) rfl ?_
    refine G.join (fun q : Heap => Keep h46 q [s] ∧ Arv Z q s ks .char (Int32.ofNat m) ((cs.take (min 2 m)).map Value.int) (.int 0)) (fun q => (q, 2, 42, 312, #[.val (.int se), .val (.int fi), .val (.long lo), .second, .val (.long hi), .second, .val (.int (se &&& (15 : Int32))), .val (.int (Int32.ofNat m)), .val (.int (Int32.ofNat d0)), .val (.ref a4), .val (.ref s), .unset, .unset, .unset], [])) ?_ ?_
    · intro J
      refine G.icle (o := (11)) (pc' := 312) (by decide +kernel) (by decide) rfl ?_ ?_
      · intro q48
        have lm : ¬ 1 < m := fun z => q48 ((nlt2 (i := 1) m2 (by decide)).mpr z)
        exact J _ ⟨KSx1, by rw [show min 2 m = min 1 m from by omega]; exact SAx1⟩
      · intro q48
        have lm : 1 < m := (nlt2 (i := 1) m2 (by decide)).mp q48
        have SB : Arv Z h47 s ks .char (Int32.ofNat m) ((cs.take 1).map Value.int) (.int 0) := by rw [show min 1 m = 1 from by omega] at SAx1; exact SAx1
        refine G.seg [(304, .aload 10, 2), (306, .iconst 1, 1), (307, .aload 9, 2), (309, .iconst 1, 1)] (by decide +kernel) (pc' := 310) (L' := #[.val (.int se), .val (.int fi), .val (.long lo), .second, .val (.long hi), .second, .val (.int (se &&& (15 : Int32))), .val (.int (Int32.ofNat m)), .val (.int (Int32.ofNat d0)), .val (.ref a4), .val (.ref s), .unset, .unset, .unset]) (S' := [.int (1 : Int32), .ref a4, .int (1 : Int32), .ref s]) rfl ?_
        refine G.caload (v := .int (cs.getD 1 0)) (by decide +kernel) (AL.keep KSx1 (ninS nas nin0)) ⟨by decide, by decide⟩ (gv cs 1) ?_
        refine G.castore (i := 1) (x' := cs.getD 1 0) (by decide +kernel) (sto (i := 1) SB) ns ⟨by decide, q48⟩ rfl (stl (cs := cs) (i := 1) (by rw [hc21]; decide)) (nar_b8 (lat_getD hlat 1)) ?_
        intro h49 K49 A49
        rw [tk (cs := cs) (i := 1) (by rw [hc21]; decide)] at A49
        have KT49 : Keep h46 h49 [s] := Keep.trans KSx1 K49 (allS (Or.inl (List.mem_singleton.mpr rfl)) all0)
        exact J _ ⟨KT49, by rw [show min 2 m = 2 from by omega]; exact A49⟩
    rintro y2 ⟨KSx2, SAx2⟩
    dsimp only
    refine G.seg [(312, .aload 10, 2)] (by decide +kernel) (pc' := 314) (L' := #[.val (.int se), .val (.int fi), .val (.long lo), .second, .val (.long hi), .second, .val (.int (se &&& (15 : Int32))), .val (.int (Int32.ofNat m)), .val (.int (Int32.ofNat d0)), .val (.ref a4), .val (.ref s), .unset, .unset, .unset]) (S' := [.ref s]) rfl ?_
    refine G.arrlen (by decide +kernel) SAx2 ?_
    refine G.seg [(315, .iconst 2, 1)] (by decide +kernel) (pc' := 316) (L' := #[.val (.int se), .val (.int fi), .val (.long lo), .second, .val (.long hi), .second, .val (.int (se &&& (15 : Int32))), .val (.int (Int32.ofNat m)), .val (.int (Int32.ofNat d0)), .val (.ref a4), .val (.ref s), .unset, .unset, .unset]) (S' := [.int (2 : Int32), .int (Int32.ofNat m)]) rfl ?_
    refine G.join (fun q : Heap => Keep h46 q [s] ∧ Arv Z q s ks .char (Int32.ofNat m) ((cs.take (min 3 m)).map Value.int) (.int 0)) (fun q => (q, 2, 42, 327, #[.val (.int se), .val (.int fi), .val (.long lo), .second, .val (.long hi), .second, .val (.int (se &&& (15 : Int32))), .val (.int (Int32.ofNat m)), .val (.int (Int32.ofNat d0)), .val (.ref a4), .val (.ref s), .unset, .unset, .unset], [])) ?_ ?_
    · intro J
      refine G.icle (o := (11)) (pc' := 327) (by decide +kernel) (by decide) rfl ?_ ?_
      · intro q50
        have lm : ¬ 2 < m := fun z => q50 ((nlt2 (i := 2) m2 (by decide)).mpr z)
        exact J _ ⟨KSx2, by rw [show min 3 m = min 2 m from by omega]; exact SAx2⟩
      · intro q50
        have lm : 2 < m := (nlt2 (i := 2) m2 (by decide)).mp q50
        have SB : Arv Z y2 s ks .char (Int32.ofNat m) ((cs.take 2).map Value.int) (.int 0) := by rw [show min 2 m = 2 from by omega] at SAx2; exact SAx2
        refine G.seg [(319, .aload 10, 2), (321, .iconst 2, 1), (322, .aload 9, 2), (324, .iconst 2, 1)] (by decide +kernel) (pc' := 325) (L' := #[.val (.int se), .val (.int fi), .val (.long lo), .second, .val (.long hi), .second, .val (.int (se &&& (15 : Int32))), .val (.int (Int32.ofNat m)), .val (.int (Int32.ofNat d0)), .val (.ref a4), .val (.ref s), .unset, .unset, .unset]) (S' := [.int (2 : Int32), .ref a4, .int (2 : Int32), .ref s]) rfl ?_
        refine G.caload (v := .int (cs.getD 2 0)) (by decide +kernel) (AL.keep KSx2 (ninS nas nin0)) ⟨by decide, by decide⟩ (gv cs 2) ?_
        refine G.castore (i := 2) (x' := cs.getD 2 0) (by decide +kernel) (sto (i := 2) SB) ns ⟨by decide, q50⟩ rfl (stl (cs := cs) (i := 2) (by rw [hc21]; decide)) (nar_b8 (lat_getD hlat 2)) ?_
        intro h51 K51 A51
        rw [tk (cs := cs) (i := 2) (by rw [hc21]; decide)] at A51
        have KT51 : Keep h46 h51 [s] := Keep.trans KSx2 K51 (allS (Or.inl (List.mem_singleton.mpr rfl)) all0)
        exact J _ ⟨KT51, by rw [show min 3 m = 3 from by omega]; exact A51⟩
    rintro y3 ⟨KSx3, SAx3⟩
    dsimp only
    refine G.seg [(327, .aload 10, 2)] (by decide +kernel) (pc' := 329) (L' := #[.val (.int se), .val (.int fi), .val (.long lo), .second, .val (.long hi), .second, .val (.int (se &&& (15 : Int32))), .val (.int (Int32.ofNat m)), .val (.int (Int32.ofNat d0)), .val (.ref a4), .val (.ref s), .unset, .unset, .unset]) (S' := [.ref s]) rfl ?_
    refine G.arrlen (by decide +kernel) SAx3 ?_
    refine G.seg [(330, .iconst 3, 1)] (by decide +kernel) (pc' := 331) (L' := #[.val (.int se), .val (.int fi), .val (.long lo), .second, .val (.long hi), .second, .val (.int (se &&& (15 : Int32))), .val (.int (Int32.ofNat m)), .val (.int (Int32.ofNat d0)), .val (.ref a4), .val (.ref s), .unset, .unset, .unset]) (S' := [.int (3 : Int32), .int (Int32.ofNat m)]) rfl ?_
    refine G.join (fun q : Heap => Keep h46 q [s] ∧ Arv Z q s ks .char (Int32.ofNat m) ((cs.take (min 4 m)).map Value.int) (.int 0)) (fun q => (q, 2, 42, 342, #[.val (.int se), .val (.int fi), .val (.long lo), .second, .val (.long hi), .second, .val (.int (se &&& (15 : Int32))), .val (.int (Int32.ofNat m)), .val (.int (Int32.ofNat d0)), .val (.ref a4), .val (.ref s), .unset, .unset, .unset], [])) ?_ ?_
    · intro J
      refine G.icle (o := (11)) (pc' := 342) (by decide +kernel) (by decide) rfl ?_ ?_
      · intro q52
        have lm : ¬ 3 < m := fun z => q52 ((nlt2 (i := 3) m2 (by decide)).mpr z)
        exact J _ ⟨KSx3, by rw [show min 4 m = min 3 m from by omega]; exact SAx3⟩
      · intro q52
        have lm : 3 < m := (nlt2 (i := 3) m2 (by decide)).mp q52
        have SB : Arv Z y3 s ks .char (Int32.ofNat m) ((cs.take 3).map Value.int) (.int 0) := by rw [show min 3 m = 3 from by omega] at SAx3; exact SAx3
        refine G.seg [(334, .aload 10, 2), (336, .iconst 3, 1), (337, .aload 9, 2), (339, .iconst 3, 1)] (by decide +kernel) (pc' := 340) (L' := #[.val (.int se), .val (.int fi), .val (.long lo), .second, .val (.long hi), .second, .val (.int (se &&& (15 : Int32))), .val (.int (Int32.ofNat m)), .val (.int (Int32.ofNat d0)), .val (.ref a4), .val (.ref s), .unset, .unset, .unset]) (S' := [.int (3 : Int32), .ref a4, .int (3 : Int32), .ref s]) rfl ?_
        refine G.caload (v := .int (cs.getD 3 0)) (by decide +kernel) (AL.keep KSx3 (ninS nas nin0)) ⟨by decide, by decide⟩ (gv cs 3) ?_
        refine G.castore (i := 3) (x' := cs.getD 3 0) (by decide +kernel) (sto (i := 3) SB) ns ⟨by decide, q52⟩ rfl (stl (cs := cs) (i := 3) (by rw [hc21]; decide)) (nar_b8 (lat_getD hlat 3)) ?_
        intro h53 K53 A53
        rw [tk (cs := cs) (i := 3) (by rw [hc21]; decide)] at A53
        have KT53 : Keep h46 h53 [s] := Keep.trans KSx3 K53 (allS (Or.inl (List.mem_singleton.mpr rfl)) all0)
        exact J _ ⟨KT53, by rw [show min 4 m = 4 from by omega]; exact A53⟩
    rintro y4 ⟨KSx4, SAx4⟩
    dsimp only
    refine G.seg [(342, .aload 10, 2)] (by decide +kernel) (pc' := 344) (L' := #[.val (.int se), .val (.int fi), .val (.long lo), .second, .val (.long hi), .second, .val (.int (se &&& (15 : Int32))), .val (.int (Int32.ofNat m)), .val (.int (Int32.ofNat d0)), .val (.ref a4), .val (.ref s), .unset, .unset, .unset]) (S' := [.ref s]) rfl ?_
    refine G.arrlen (by decide +kernel) SAx4 ?_
    refine G.seg [(345, .iconst 4, 1)] (by decide +kernel) (pc' := 346) (L' := #[.val (.int se), .val (.int fi), .val (.long lo), .second, .val (.long hi), .second, .val (.int (se &&& (15 : Int32))), .val (.int (Int32.ofNat m)), .val (.int (Int32.ofNat d0)), .val (.ref a4), .val (.ref s), .unset, .unset, .unset]) (S' := [.int (4 : Int32), .int (Int32.ofNat m)]) rfl ?_
    refine G.join (fun q : Heap => Keep h46 q [s] ∧ Arv Z q s ks .char (Int32.ofNat m) ((cs.take (min 5 m)).map Value.int) (.int 0)) (fun q => (q, 2, 42, 357, #[.val (.int se), .val (.int fi), .val (.long lo), .second, .val (.long hi), .second, .val (.int (se &&& (15 : Int32))), .val (.int (Int32.ofNat m)), .val (.int (Int32.ofNat d0)), .val (.ref a4), .val (.ref s), .unset, .unset, .unset], [])) ?_ ?_
    · intro J
      refine G.icle (o := (11)) (pc' := 357) (by decide +kernel) (by decide) rfl ?_ ?_
      · intro q54
        have lm : ¬ 4 < m := fun z => q54 ((nlt2 (i := 4) m2 (by decide)).mpr z)
        exact J _ ⟨KSx4, by rw [show min 5 m = min 4 m from by omega]; exact SAx4⟩
      · intro q54
        have lm : 4 < m := (nlt2 (i := 4) m2 (by decide)).mp q54
        have SB : Arv Z y4 s ks .char (Int32.ofNat m) ((cs.take 4).map Value.int) (.int 0) := by rw [show min 4 m = 4 from by omega] at SAx4; exact SAx4
        refine G.seg [(349, .aload 10, 2), (351, .iconst 4, 1), (352, .aload 9, 2), (354, .iconst 4, 1)] (by decide +kernel) (pc' := 355) (L' := #[.val (.int se), .val (.int fi), .val (.long lo), .second, .val (.long hi), .second, .val (.int (se &&& (15 : Int32))), .val (.int (Int32.ofNat m)), .val (.int (Int32.ofNat d0)), .val (.ref a4), .val (.ref s), .unset, .unset, .unset]) (S' := [.int (4 : Int32), .ref a4, .int (4 : Int32), .ref s]) rfl ?_
        refine G.caload (v := .int (cs.getD 4 0)) (by decide +kernel) (AL.keep KSx4 (ninS nas nin0)) ⟨by decide, by decide⟩ (gv cs 4) ?_
        refine G.castore (i := 4) (x' := cs.getD 4 0) (by decide +kernel) (sto (i := 4) SB) ns ⟨by decide, q54⟩ rfl (stl (cs := cs) (i := 4) (by rw [hc21]; decide)) (nar_b8 (lat_getD hlat 4)) ?_
        intro h55 K55 A55
        rw [tk (cs := cs) (i := 4) (by rw [hc21]; decide)] at A55
        have KT55 : Keep h46 h55 [s] := Keep.trans KSx4 K55 (allS (Or.inl (List.mem_singleton.mpr rfl)) all0)
        exact J _ ⟨KT55, by rw [show min 5 m = 5 from by omega]; exact A55⟩
    rintro y5 ⟨KSx5, SAx5⟩
    dsimp only
    refine G.seg [(357, .aload 10, 2)] (by decide +kernel) (pc' := 359) (L' := #[.val (.int se), .val (.int fi), .val (.long lo), .second, .val (.long hi), .second, .val (.int (se &&& (15 : Int32))), .val (.int (Int32.ofNat m)), .val (.int (Int32.ofNat d0)), .val (.ref a4), .val (.ref s), .unset, .unset, .unset]) (S' := [.ref s]) rfl ?_
    refine G.arrlen (by decide +kernel) SAx5 ?_
    refine G.seg [(360, .iconst 5, 1)] (by decide +kernel) (pc' := 361) (L' := #[.val (.int se), .val (.int fi), .val (.long lo), .second, .val (.long hi), .second, .val (.int (se &&& (15 : Int32))), .val (.int (Int32.ofNat m)), .val (.int (Int32.ofNat d0)), .val (.ref a4), .val (.ref s), .unset, .unset, .unset]) (S' := [.int (5 : Int32), .int (Int32.ofNat m)]) rfl ?_
    refine G.join (fun q : Heap => Keep h46 q [s] ∧ Arv Z q s ks .char (Int32.ofNat m) ((cs.take (min 6 m)).map Value.int) (.int 0)) (fun q => (q, 2, 42, 372, #[.val (.int se), .val (.int fi), .val (.long lo), .second, .val (.long hi), .second, .val (.int (se &&& (15 : Int32))), .val (.int (Int32.ofNat m)), .val (.int (Int32.ofNat d0)), .val (.ref a4), .val (.ref s), .unset, .unset, .unset], [])) ?_ ?_
    · intro J
      refine G.icle (o := (11)) (pc' := 372) (by decide +kernel) (by decide) rfl ?_ ?_
      · intro q56
        have lm : ¬ 5 < m := fun z => q56 ((nlt2 (i := 5) m2 (by decide)).mpr z)
        exact J _ ⟨KSx5, by rw [show min 6 m = min 5 m from by omega]; exact SAx5⟩
      · intro q56
        have lm : 5 < m := (nlt2 (i := 5) m2 (by decide)).mp q56
        have SB : Arv Z y5 s ks .char (Int32.ofNat m) ((cs.take 5).map Value.int) (.int 0) := by rw [show min 5 m = 5 from by omega] at SAx5; exact SAx5
        refine G.seg [(364, .aload 10, 2), (366, .iconst 5, 1), (367, .aload 9, 2), (369, .iconst 5, 1)] (by decide +kernel) (pc' := 370) (L' := #[.val (.int se), .val (.int fi), .val (.long lo), .second, .val (.long hi), .second, .val (.int (se &&& (15 : Int32))), .val (.int (Int32.ofNat m)), .val (.int (Int32.ofNat d0)), .val (.ref a4), .val (.ref s), .unset, .unset, .unset]) (S' := [.int (5 : Int32), .ref a4, .int (5 : Int32), .ref s]) rfl ?_
        refine G.caload (v := .int (cs.getD 5 0)) (by decide +kernel) (AL.keep KSx5 (ninS nas nin0)) ⟨by decide, by decide⟩ (gv cs 5) ?_
        refine G.castore (i := 5) (x' := cs.getD 5 0) (by decide +kernel) (sto (i := 5) SB) ns ⟨by decide, q56⟩ rfl (stl (cs := cs) (i := 5) (by rw [hc21]; decide)) (nar_b8 (lat_getD hlat 5)) ?_
        intro h57 K57 A57
        rw [tk (cs := cs) (i := 5) (by rw [hc21]; decide)] at A57
        have KT57 : Keep h46 h57 [s] := Keep.trans KSx5 K57 (allS (Or.inl (List.mem_singleton.mpr rfl)) all0)
        exact J _ ⟨KT57, by rw [show min 6 m = 6 from by omega]; exact A57⟩
    rintro y6 ⟨KSx6, SAx6⟩
    dsimp only
    refine G.seg [(372, .aload 10, 2)] (by decide +kernel) (pc' := 374) (L' := #[.val (.int se), .val (.int fi), .val (.long lo), .second, .val (.long hi), .second, .val (.int (se &&& (15 : Int32))), .val (.int (Int32.ofNat m)), .val (.int (Int32.ofNat d0)), .val (.ref a4), .val (.ref s), .unset, .unset, .unset]) (S' := [.ref s]) rfl ?_
    refine G.arrlen (by decide +kernel) SAx6 ?_
    refine G.seg [(375, .bipush 6, 2)] (by decide +kernel) (pc' := 377) (L' := #[.val (.int se), .val (.int fi), .val (.long lo), .second, .val (.long hi), .second, .val (.int (se &&& (15 : Int32))), .val (.int (Int32.ofNat m)), .val (.int (Int32.ofNat d0)), .val (.ref a4), .val (.ref s), .unset, .unset, .unset]) (S' := [.int (6 : Int32), .int (Int32.ofNat m)]) rfl ?_
    refine G.join (fun q : Heap => Keep h46 q [s] ∧ Arv Z q s ks .char (Int32.ofNat m) ((cs.take (min 7 m)).map Value.int) (.int 0)) (fun q => (q, 2, 42, 390, #[.val (.int se), .val (.int fi), .val (.long lo), .second, .val (.long hi), .second, .val (.int (se &&& (15 : Int32))), .val (.int (Int32.ofNat m)), .val (.int (Int32.ofNat d0)), .val (.ref a4), .val (.ref s), .unset, .unset, .unset], [])) ?_ ?_
    · intro J
      refine G.icle (o := (13)) (pc' := 390) (by decide +kernel) (by decide) rfl ?_ ?_
      · intro q58
        have lm : ¬ 6 < m := fun z => q58 ((nlt2 (i := 6) m2 (by decide)).mpr z)
        exact J _ ⟨KSx6, by rw [show min 7 m = min 6 m from by omega]; exact SAx6⟩
      · intro q58
        have lm : 6 < m := (nlt2 (i := 6) m2 (by decide)).mp q58
        have SB : Arv Z y6 s ks .char (Int32.ofNat m) ((cs.take 6).map Value.int) (.int 0) := by rw [show min 6 m = 6 from by omega] at SAx6; exact SAx6
        refine G.seg [(380, .aload 10, 2), (382, .bipush 6, 2), (384, .aload 9, 2), (386, .bipush 6, 2)] (by decide +kernel) (pc' := 388) (L' := #[.val (.int se), .val (.int fi), .val (.long lo), .second, .val (.long hi), .second, .val (.int (se &&& (15 : Int32))), .val (.int (Int32.ofNat m)), .val (.int (Int32.ofNat d0)), .val (.ref a4), .val (.ref s), .unset, .unset, .unset]) (S' := [.int (6 : Int32), .ref a4, .int (6 : Int32), .ref s]) rfl ?_
        refine G.caload (v := .int (cs.getD 6 0)) (by decide +kernel) (AL.keep KSx6 (ninS nas nin0)) ⟨by decide, by decide⟩ (gv cs 6) ?_
        refine G.castore (i := 6) (x' := cs.getD 6 0) (by decide +kernel) (sto (i := 6) SB) ns ⟨by decide, q58⟩ rfl (stl (cs := cs) (i := 6) (by rw [hc21]; decide)) (nar_b8 (lat_getD hlat 6)) ?_
        intro h59 K59 A59
        rw [tk (cs := cs) (i := 6) (by rw [hc21]; decide)] at A59
        have KT59 : Keep h46 h59 [s] := Keep.trans KSx6 K59 (allS (Or.inl (List.mem_singleton.mpr rfl)) all0)
        exact J _ ⟨KT59, by rw [show min 7 m = 7 from by omega]; exact A59⟩
    rintro y7 ⟨KSx7, SAx7⟩
    dsimp only
    refine G.seg [(390, .aload 10, 2)] (by decide +kernel) (pc' := 392) (L' := #[.val (.int se), .val (.int fi), .val (.long lo), .second, .val (.long hi), .second, .val (.int (se &&& (15 : Int32))), .val (.int (Int32.ofNat m)), .val (.int (Int32.ofNat d0)), .val (.ref a4), .val (.ref s), .unset, .unset, .unset]) (S' := [.ref s]) rfl ?_
    refine G.arrlen (by decide +kernel) SAx7 ?_
    refine G.seg [(393, .bipush 7, 2)] (by decide +kernel) (pc' := 395) (L' := #[.val (.int se), .val (.int fi), .val (.long lo), .second, .val (.long hi), .second, .val (.int (se &&& (15 : Int32))), .val (.int (Int32.ofNat m)), .val (.int (Int32.ofNat d0)), .val (.ref a4), .val (.ref s), .unset, .unset, .unset]) (S' := [.int (7 : Int32), .int (Int32.ofNat m)]) rfl ?_
    refine G.join (fun q : Heap => Keep h46 q [s] ∧ Arv Z q s ks .char (Int32.ofNat m) ((cs.take (min 8 m)).map Value.int) (.int 0)) (fun q => (q, 2, 42, 408, #[.val (.int se), .val (.int fi), .val (.long lo), .second, .val (.long hi), .second, .val (.int (se &&& (15 : Int32))), .val (.int (Int32.ofNat m)), .val (.int (Int32.ofNat d0)), .val (.ref a4), .val (.ref s), .unset, .unset, .unset], [])) ?_ ?_
    · intro J
      refine G.icle (o := (13)) (pc' := 408) (by decide +kernel) (by decide) rfl ?_ ?_
      · intro q60
        have lm : ¬ 7 < m := fun z => q60 ((nlt2 (i := 7) m2 (by decide)).mpr z)
        exact J _ ⟨KSx7, by rw [show min 8 m = min 7 m from by omega]; exact SAx7⟩
      · intro q60
        have lm : 7 < m := (nlt2 (i := 7) m2 (by decide)).mp q60
        have SB : Arv Z y7 s ks .char (Int32.ofNat m) ((cs.take 7).map Value.int) (.int 0) := by rw [show min 7 m = 7 from by omega] at SAx7; exact SAx7
        refine G.seg [(398, .aload 10, 2), (400, .bipush 7, 2), (402, .aload 9, 2), (404, .bipush 7, 2)] (by decide +kernel) (pc' := 406) (L' := #[.val (.int se), .val (.int fi), .val (.long lo), .second, .val (.long hi), .second, .val (.int (se &&& (15 : Int32))), .val (.int (Int32.ofNat m)), .val (.int (Int32.ofNat d0)), .val (.ref a4), .val (.ref s), .unset, .unset, .unset]) (S' := [.int (7 : Int32), .ref a4, .int (7 : Int32), .ref s]) rfl ?_
        refine G.caload (v := .int (cs.getD 7 0)) (by decide +kernel) (AL.keep KSx7 (ninS nas nin0)) ⟨by decide, by decide⟩ (gv cs 7) ?_
        refine G.castore (i := 7) (x' := cs.getD 7 0) (by decide +kernel) (sto (i := 7) SB) ns ⟨by decide, q60⟩ rfl (stl (cs := cs) (i := 7) (by rw [hc21]; decide)) (nar_b8 (lat_getD hlat 7)) ?_
        intro h61 K61 A61
        rw [tk (cs := cs) (i := 7) (by rw [hc21]; decide)] at A61
        have KT61 : Keep h46 h61 [s] := Keep.trans KSx7 K61 (allS (Or.inl (List.mem_singleton.mpr rfl)) all0)
        exact J _ ⟨KT61, by rw [show min 8 m = 8 from by omega]; exact A61⟩
    rintro y8 ⟨KSx8, SAx8⟩
    dsimp only
    refine G.seg [(408, .aload 10, 2)] (by decide +kernel) (pc' := 410) (L' := #[.val (.int se), .val (.int fi), .val (.long lo), .second, .val (.long hi), .second, .val (.int (se &&& (15 : Int32))), .val (.int (Int32.ofNat m)), .val (.int (Int32.ofNat d0)), .val (.ref a4), .val (.ref s), .unset, .unset, .unset]) (S' := [.ref s]) rfl ?_
    refine G.arrlen (by decide +kernel) SAx8 ?_
    refine G.seg [(411, .bipush 8, 2)] (by decide +kernel) (pc' := 413) (L' := #[.val (.int se), .val (.int fi), .val (.long lo), .second, .val (.long hi), .second, .val (.int (se &&& (15 : Int32))), .val (.int (Int32.ofNat m)), .val (.int (Int32.ofNat d0)), .val (.ref a4), .val (.ref s), .unset, .unset, .unset]) (S' := [.int (8 : Int32), .int (Int32.ofNat m)]) rfl ?_
    refine G.join (fun q : Heap => Keep h46 q [s] ∧ Arv Z q s ks .char (Int32.ofNat m) ((cs.take (min 9 m)).map Value.int) (.int 0)) (fun q => (q, 2, 42, 426, #[.val (.int se), .val (.int fi), .val (.long lo), .second, .val (.long hi), .second, .val (.int (se &&& (15 : Int32))), .val (.int (Int32.ofNat m)), .val (.int (Int32.ofNat d0)), .val (.ref a4), .val (.ref s), .unset, .unset, .unset], [])) ?_ ?_
    · intro J
      refine G.icle (o := (13)) (pc' := 426) (by decide +kernel) (by decide) rfl ?_ ?_
      · intro q62
        have lm : ¬ 8 < m := fun z => q62 ((nlt2 (i := 8) m2 (by decide)).mpr z)
        exact J _ ⟨KSx8, by rw [show min 9 m = min 8 m from by omega]; exact SAx8⟩
      · intro q62
        have lm : 8 < m := (nlt2 (i := 8) m2 (by decide)).mp q62
        have SB : Arv Z y8 s ks .char (Int32.ofNat m) ((cs.take 8).map Value.int) (.int 0) := by rw [show min 8 m = 8 from by omega] at SAx8; exact SAx8
        refine G.seg [(416, .aload 10, 2), (418, .bipush 8, 2), (420, .aload 9, 2), (422, .bipush 8, 2)] (by decide +kernel) (pc' := 424) (L' := #[.val (.int se), .val (.int fi), .val (.long lo), .second, .val (.long hi), .second, .val (.int (se &&& (15 : Int32))), .val (.int (Int32.ofNat m)), .val (.int (Int32.ofNat d0)), .val (.ref a4), .val (.ref s), .unset, .unset, .unset]) (S' := [.int (8 : Int32), .ref a4, .int (8 : Int32), .ref s]) rfl ?_
        refine G.caload (v := .int (cs.getD 8 0)) (by decide +kernel) (AL.keep KSx8 (ninS nas nin0)) ⟨by decide, by decide⟩ (gv cs 8) ?_
        refine G.castore (i := 8) (x' := cs.getD 8 0) (by decide +kernel) (sto (i := 8) SB) ns ⟨by decide, q62⟩ rfl (stl (cs := cs) (i := 8) (by rw [hc21]; decide)) (nar_b8 (lat_getD hlat 8)) ?_
        intro h63 K63 A63
        rw [tk (cs := cs) (i := 8) (by rw [hc21]; decide)] at A63
        have KT63 : Keep h46 h63 [s] := Keep.trans KSx8 K63 (allS (Or.inl (List.mem_singleton.mpr rfl)) all0)
        exact J _ ⟨KT63, by rw [show min 9 m = 9 from by omega]; exact A63⟩
    rintro y9 ⟨KSx9, SAx9⟩
    dsimp only
    refine G.seg [(426, .aload 10, 2)] (by decide +kernel) (pc' := 428) (L' := #[.val (.int se), .val (.int fi), .val (.long lo), .second, .val (.long hi), .second, .val (.int (se &&& (15 : Int32))), .val (.int (Int32.ofNat m)), .val (.int (Int32.ofNat d0)), .val (.ref a4), .val (.ref s), .unset, .unset, .unset]) (S' := [.ref s]) rfl ?_
    refine G.arrlen (by decide +kernel) SAx9 ?_
    refine G.seg [(429, .bipush 9, 2)] (by decide +kernel) (pc' := 431) (L' := #[.val (.int se), .val (.int fi), .val (.long lo), .second, .val (.long hi), .second, .val (.int (se &&& (15 : Int32))), .val (.int (Int32.ofNat m)), .val (.int (Int32.ofNat d0)), .val (.ref a4), .val (.ref s), .unset, .unset, .unset]) (S' := [.int (9 : Int32), .int (Int32.ofNat m)]) rfl ?_
    refine G.join (fun q : Heap => Keep h46 q [s] ∧ Arv Z q s ks .char (Int32.ofNat m) ((cs.take (min 10 m)).map Value.int) (.int 0)) (fun q => (q, 2, 42, 444, #[.val (.int se), .val (.int fi), .val (.long lo), .second, .val (.long hi), .second, .val (.int (se &&& (15 : Int32))), .val (.int (Int32.ofNat m)), .val (.int (Int32.ofNat d0)), .val (.ref a4), .val (.ref s), .unset, .unset, .unset], [])) ?_ ?_
    · intro J
      refine G.icle (o := (13)) (pc' := 444) (by decide +kernel) (by decide) rfl ?_ ?_
      · intro q64
        have lm : ¬ 9 < m := fun z => q64 ((nlt2 (i := 9) m2 (by decide)).mpr z)
        exact J _ ⟨KSx9, by rw [show min 10 m = min 9 m from by omega]; exact SAx9⟩
      · intro q64
        have lm : 9 < m := (nlt2 (i := 9) m2 (by decide)).mp q64
        have SB : Arv Z y9 s ks .char (Int32.ofNat m) ((cs.take 9).map Value.int) (.int 0) := by rw [show min 9 m = 9 from by omega] at SAx9; exact SAx9
        refine G.seg [(434, .aload 10, 2), (436, .bipush 9, 2), (438, .aload 9, 2), (440, .bipush 9, 2)] (by decide +kernel) (pc' := 442) (L' := #[.val (.int se), .val (.int fi), .val (.long lo), .second, .val (.long hi), .second, .val (.int (se &&& (15 : Int32))), .val (.int (Int32.ofNat m)), .val (.int (Int32.ofNat d0)), .val (.ref a4), .val (.ref s), .unset, .unset, .unset]) (S' := [.int (9 : Int32), .ref a4, .int (9 : Int32), .ref s]) rfl ?_
        refine G.caload (v := .int (cs.getD 9 0)) (by decide +kernel) (AL.keep KSx9 (ninS nas nin0)) ⟨by decide, by decide⟩ (gv cs 9) ?_
        refine G.castore (i := 9) (x' := cs.getD 9 0) (by decide +kernel) (sto (i := 9) SB) ns ⟨by decide, q64⟩ rfl (stl (cs := cs) (i := 9) (by rw [hc21]; decide)) (nar_b8 (lat_getD hlat 9)) ?_
        intro h65 K65 A65
        rw [tk (cs := cs) (i := 9) (by rw [hc21]; decide)] at A65
        have KT65 : Keep h46 h65 [s] := Keep.trans KSx9 K65 (allS (Or.inl (List.mem_singleton.mpr rfl)) all0)
        exact J _ ⟨KT65, by rw [show min 10 m = 10 from by omega]; exact A65⟩
    rintro y10 ⟨KSx10, SAx10⟩
    dsimp only
    refine G.seg [(444, .aload 10, 2)] (by decide +kernel) (pc' := 446) (L' := #[.val (.int se), .val (.int fi), .val (.long lo), .second, .val (.long hi), .second, .val (.int (se &&& (15 : Int32))), .val (.int (Int32.ofNat m)), .val (.int (Int32.ofNat d0)), .val (.ref a4), .val (.ref s), .unset, .unset, .unset]) (S' := [.ref s]) rfl ?_
    refine G.arrlen (by decide +kernel) SAx10 ?_
    refine G.seg [(447, .bipush 10, 2)] (by decide +kernel) (pc' := 449) (L' := #[.val (.int se), .val (.int fi), .val (.long lo), .second, .val (.long hi), .second, .val (.int (se &&& (15 : Int32))), .val (.int (Int32.ofNat m)), .val (.int (Int32.ofNat d0)), .val (.ref a4), .val (.ref s), .unset, .unset, .unset]) (S' := [.int (10 : Int32), .int (Int32.ofNat m)]) rfl ?_
    refine G.join (fun q : Heap => Keep h46 q [s] ∧ Arv Z q s ks .char (Int32.ofNat m) ((cs.take (min 11 m)).map Value.int) (.int 0)) (fun q => (q, 2, 42, 462, #[.val (.int se), .val (.int fi), .val (.long lo), .second, .val (.long hi), .second, .val (.int (se &&& (15 : Int32))), .val (.int (Int32.ofNat m)), .val (.int (Int32.ofNat d0)), .val (.ref a4), .val (.ref s), .unset, .unset, .unset], [])) ?_ ?_
    · intro J
      refine G.icle (o := (13)) (pc' := 462) (by decide +kernel) (by decide) rfl ?_ ?_
      · intro q66
        have lm : ¬ 10 < m := fun z => q66 ((nlt2 (i := 10) m2 (by decide)).mpr z)
        exact J _ ⟨KSx10, by rw [show min 11 m = min 10 m from by omega]; exact SAx10⟩
      · intro q66
        have lm : 10 < m := (nlt2 (i := 10) m2 (by decide)).mp q66
        have SB : Arv Z y10 s ks .char (Int32.ofNat m) ((cs.take 10).map Value.int) (.int 0) := by rw [show min 10 m = 10 from by omega] at SAx10; exact SAx10
        refine G.seg [(452, .aload 10, 2), (454, .bipush 10, 2), (456, .aload 9, 2), (458, .bipush 10, 2)] (by decide +kernel) (pc' := 460) (L' := #[.val (.int se), .val (.int fi), .val (.long lo), .second, .val (.long hi), .second, .val (.int (se &&& (15 : Int32))), .val (.int (Int32.ofNat m)), .val (.int (Int32.ofNat d0)), .val (.ref a4), .val (.ref s), .unset, .unset, .unset]) (S' := [.int (10 : Int32), .ref a4, .int (10 : Int32), .ref s]) rfl ?_
        refine G.caload (v := .int (cs.getD 10 0)) (by decide +kernel) (AL.keep KSx10 (ninS nas nin0)) ⟨by decide, by decide⟩ (gv cs 10) ?_
        refine G.castore (i := 10) (x' := cs.getD 10 0) (by decide +kernel) (sto (i := 10) SB) ns ⟨by decide, q66⟩ rfl (stl (cs := cs) (i := 10) (by rw [hc21]; decide)) (nar_b8 (lat_getD hlat 10)) ?_
        intro h67 K67 A67
        rw [tk (cs := cs) (i := 10) (by rw [hc21]; decide)] at A67
        have KT67 : Keep h46 h67 [s] := Keep.trans KSx10 K67 (allS (Or.inl (List.mem_singleton.mpr rfl)) all0)
        exact J _ ⟨KT67, by rw [show min 11 m = 11 from by omega]; exact A67⟩
    rintro y11 ⟨KSx11, SAx11⟩
    dsimp only
    refine G.seg [(462, .aload 10, 2)] (by decide +kernel) (pc' := 464) (L' := #[.val (.int se), .val (.int fi), .val (.long lo), .second, .val (.long hi), .second, .val (.int (se &&& (15 : Int32))), .val (.int (Int32.ofNat m)), .val (.int (Int32.ofNat d0)), .val (.ref a4), .val (.ref s), .unset, .unset, .unset]) (S' := [.ref s]) rfl ?_
    refine G.arrlen (by decide +kernel) SAx11 ?_
    refine G.seg [(465, .bipush 11, 2)] (by decide +kernel) (pc' := 467) (L' := #[.val (.int se), .val (.int fi), .val (.long lo), .second, .val (.long hi), .second, .val (.int (se &&& (15 : Int32))), .val (.int (Int32.ofNat m)), .val (.int (Int32.ofNat d0)), .val (.ref a4), .val (.ref s), .unset, .unset, .unset]) (S' := [.int (11 : Int32), .int (Int32.ofNat m)]) rfl ?_
    refine G.join (fun q : Heap => Keep h46 q [s] ∧ Arv Z q s ks .char (Int32.ofNat m) ((cs.take (min 12 m)).map Value.int) (.int 0)) (fun q => (q, 2, 42, 480, #[.val (.int se), .val (.int fi), .val (.long lo), .second, .val (.long hi), .second, .val (.int (se &&& (15 : Int32))), .val (.int (Int32.ofNat m)), .val (.int (Int32.ofNat d0)), .val (.ref a4), .val (.ref s), .unset, .unset, .unset], [])) ?_ ?_
    · intro J
      refine G.icle (o := (13)) (pc' := 480) (by decide +kernel) (by decide) rfl ?_ ?_
      · intro q68
        have lm : ¬ 11 < m := fun z => q68 ((nlt2 (i := 11) m2 (by decide)).mpr z)
        exact J _ ⟨KSx11, by rw [show min 12 m = min 11 m from by omega]; exact SAx11⟩
      · intro q68
        have lm : 11 < m := (nlt2 (i := 11) m2 (by decide)).mp q68
        have SB : Arv Z y11 s ks .char (Int32.ofNat m) ((cs.take 11).map Value.int) (.int 0) := by rw [show min 11 m = 11 from by omega] at SAx11; exact SAx11
        refine G.seg [(470, .aload 10, 2), (472, .bipush 11, 2), (474, .aload 9, 2), (476, .bipush 11, 2)] (by decide +kernel) (pc' := 478) (L' := #[.val (.int se), .val (.int fi), .val (.long lo), .second, .val (.long hi), .second, .val (.int (se &&& (15 : Int32))), .val (.int (Int32.ofNat m)), .val (.int (Int32.ofNat d0)), .val (.ref a4), .val (.ref s), .unset, .unset, .unset]) (S' := [.int (11 : Int32), .ref a4, .int (11 : Int32), .ref s]) rfl ?_
        refine G.caload (v := .int (cs.getD 11 0)) (by decide +kernel) (AL.keep KSx11 (ninS nas nin0)) ⟨by decide, by decide⟩ (gv cs 11) ?_
        refine G.castore (i := 11) (x' := cs.getD 11 0) (by decide +kernel) (sto (i := 11) SB) ns ⟨by decide, q68⟩ rfl (stl (cs := cs) (i := 11) (by rw [hc21]; decide)) (nar_b8 (lat_getD hlat 11)) ?_
        intro h69 K69 A69
        rw [tk (cs := cs) (i := 11) (by rw [hc21]; decide)] at A69
        have KT69 : Keep h46 h69 [s] := Keep.trans KSx11 K69 (allS (Or.inl (List.mem_singleton.mpr rfl)) all0)
        exact J _ ⟨KT69, by rw [show min 12 m = 12 from by omega]; exact A69⟩
    rintro y12 ⟨KSx12, SAx12⟩
    dsimp only
    refine G.seg [(480, .aload 10, 2)] (by decide +kernel) (pc' := 482) (L' := #[.val (.int se), .val (.int fi), .val (.long lo), .second, .val (.long hi), .second, .val (.int (se &&& (15 : Int32))), .val (.int (Int32.ofNat m)), .val (.int (Int32.ofNat d0)), .val (.ref a4), .val (.ref s), .unset, .unset, .unset]) (S' := [.ref s]) rfl ?_
    refine G.arrlen (by decide +kernel) SAx12 ?_
    refine G.seg [(483, .bipush 12, 2)] (by decide +kernel) (pc' := 485) (L' := #[.val (.int se), .val (.int fi), .val (.long lo), .second, .val (.long hi), .second, .val (.int (se &&& (15 : Int32))), .val (.int (Int32.ofNat m)), .val (.int (Int32.ofNat d0)), .val (.ref a4), .val (.ref s), .unset, .unset, .unset]) (S' := [.int (12 : Int32), .int (Int32.ofNat m)]) rfl ?_
    refine G.join (fun q : Heap => Keep h46 q [s] ∧ Arv Z q s ks .char (Int32.ofNat m) ((cs.take (min 13 m)).map Value.int) (.int 0)) (fun q => (q, 2, 42, 498, #[.val (.int se), .val (.int fi), .val (.long lo), .second, .val (.long hi), .second, .val (.int (se &&& (15 : Int32))), .val (.int (Int32.ofNat m)), .val (.int (Int32.ofNat d0)), .val (.ref a4), .val (.ref s), .unset, .unset, .unset], [])) ?_ ?_
    · intro J
      refine G.icle (o := (13)) (pc' := 498) (by decide +kernel) (by decide) rfl ?_ ?_
      · intro q70
        have lm : ¬ 12 < m := fun z => q70 ((nlt2 (i := 12) m2 (by decide)).mpr z)
        exact J _ ⟨KSx12, by rw [show min 13 m = min 12 m from by omega]; exact SAx12⟩
      · intro q70
        have lm : 12 < m := (nlt2 (i := 12) m2 (by decide)).mp q70
        have SB : Arv Z y12 s ks .char (Int32.ofNat m) ((cs.take 12).map Value.int) (.int 0) := by rw [show min 12 m = 12 from by omega] at SAx12; exact SAx12
        refine G.seg [(488, .aload 10, 2), (490, .bipush 12, 2), (492, .aload 9, 2), (494, .bipush 12, 2)] (by decide +kernel) (pc' := 496) (L' := #[.val (.int se), .val (.int fi), .val (.long lo), .second, .val (.long hi), .second, .val (.int (se &&& (15 : Int32))), .val (.int (Int32.ofNat m)), .val (.int (Int32.ofNat d0)), .val (.ref a4), .val (.ref s), .unset, .unset, .unset]) (S' := [.int (12 : Int32), .ref a4, .int (12 : Int32), .ref s]) rfl ?_
        refine G.caload (v := .int (cs.getD 12 0)) (by decide +kernel) (AL.keep KSx12 (ninS nas nin0)) ⟨by decide, by decide⟩ (gv cs 12) ?_
        refine G.castore (i := 12) (x' := cs.getD 12 0) (by decide +kernel) (sto (i := 12) SB) ns ⟨by decide, q70⟩ rfl (stl (cs := cs) (i := 12) (by rw [hc21]; decide)) (nar_b8 (lat_getD hlat 12)) ?_
        intro h71 K71 A71
        rw [tk (cs := cs) (i := 12) (by rw [hc21]; decide)] at A71
        have KT71 : Keep h46 h71 [s] := Keep.trans KSx12 K71 (allS (Or.inl (List.mem_singleton.mpr rfl)) all0)
        exact J _ ⟨KT71, by rw [show min 13 m = 13 from by omega]; exact A71⟩
    rintro y13 ⟨KSx13, SAx13⟩
    dsimp only
    refine G.seg [(498, .aload 10, 2)] (by decide +kernel) (pc' := 500) (L' := #[.val (.int se), .val (.int fi), .val (.long lo), .second, .val (.long hi), .second, .val (.int (se &&& (15 : Int32))), .val (.int (Int32.ofNat m)), .val (.int (Int32.ofNat d0)), .val (.ref a4), .val (.ref s), .unset, .unset, .unset]) (S' := [.ref s]) rfl ?_
    refine G.arrlen (by decide +kernel) SAx13 ?_
    refine G.seg [(501, .bipush 13, 2)] (by decide +kernel) (pc' := 503) (L' := #[.val (.int se), .val (.int fi), .val (.long lo), .second, .val (.long hi), .second, .val (.int (se &&& (15 : Int32))), .val (.int (Int32.ofNat m)), .val (.int (Int32.ofNat d0)), .val (.ref a4), .val (.ref s), .unset, .unset, .unset]) (S' := [.int (13 : Int32), .int (Int32.ofNat m)]) rfl ?_
    refine G.join (fun q : Heap => Keep h46 q [s] ∧ Arv Z q s ks .char (Int32.ofNat m) ((cs.take (min 14 m)).map Value.int) (.int 0)) (fun q => (q, 2, 42, 516, #[.val (.int se), .val (.int fi), .val (.long lo), .second, .val (.long hi), .second, .val (.int (se &&& (15 : Int32))), .val (.int (Int32.ofNat m)), .val (.int (Int32.ofNat d0)), .val (.ref a4), .val (.ref s), .unset, .unset, .unset], [])) ?_ ?_
    · intro J
      refine G.icle (o := (13)) (pc' := 516) (by decide +kernel) (by decide) rfl ?_ ?_
      · intro q72
        have lm : ¬ 13 < m := fun z => q72 ((nlt2 (i := 13) m2 (by decide)).mpr z)
        exact J _ ⟨KSx13, by rw [show min 14 m = min 13 m from by omega]; exact SAx13⟩
      · intro q72
        have lm : 13 < m := (nlt2 (i := 13) m2 (by decide)).mp q72
        have SB : Arv Z y13 s ks .char (Int32.ofNat m) ((cs.take 13).map Value.int) (.int 0) := by rw [show min 13 m = 13 from by omega] at SAx13; exact SAx13
        refine G.seg [(506, .aload 10, 2), (508, .bipush 13, 2), (510, .aload 9, 2), (512, .bipush 13, 2)] (by decide +kernel) (pc' := 514) (L' := #[.val (.int se), .val (.int fi), .val (.long lo), .second, .val (.long hi), .second, .val (.int (se &&& (15 : Int32))), .val (.int (Int32.ofNat m)), .val (.int (Int32.ofNat d0)), .val (.ref a4), .val (.ref s), .unset, .unset, .unset]) (S' := [.int (13 : Int32), .ref a4, .int (13 : Int32), .ref s]) rfl ?_
        refine G.caload (v := .int (cs.getD 13 0)) (by decide +kernel) (AL.keep KSx13 (ninS nas nin0)) ⟨by decide, by decide⟩ (gv cs 13) ?_
        refine G.castore (i := 13) (x' := cs.getD 13 0) (by decide +kernel) (sto (i := 13) SB) ns ⟨by decide, q72⟩ rfl (stl (cs := cs) (i := 13) (by rw [hc21]; decide)) (nar_b8 (lat_getD hlat 13)) ?_
        intro h73 K73 A73
        rw [tk (cs := cs) (i := 13) (by rw [hc21]; decide)] at A73
        have KT73 : Keep h46 h73 [s] := Keep.trans KSx13 K73 (allS (Or.inl (List.mem_singleton.mpr rfl)) all0)
        exact J _ ⟨KT73, by rw [show min 14 m = 14 from by omega]; exact A73⟩
    rintro y14 ⟨KSx14, SAx14⟩
    dsimp only
    refine G.seg [(516, .aload 10, 2)] (by decide +kernel) (pc' := 518) (L' := #[.val (.int se), .val (.int fi), .val (.long lo), .second, .val (.long hi), .second, .val (.int (se &&& (15 : Int32))), .val (.int (Int32.ofNat m)), .val (.int (Int32.ofNat d0)), .val (.ref a4), .val (.ref s), .unset, .unset, .unset]) (S' := [.ref s]) rfl ?_
    refine G.arrlen (by decide +kernel) SAx14 ?_
    refine G.seg [(519, .bipush 14, 2)] (by decide +kernel) (pc' := 521) (L' := #[.val (.int se), .val (.int fi), .val (.long lo), .second, .val (.long hi), .second, .val (.int (se &&& (15 : Int32))), .val (.int (Int32.ofNat m)), .val (.int (Int32.ofNat d0)), .val (.ref a4), .val (.ref s), .unset, .unset, .unset]) (S' := [.int (14 : Int32), .int (Int32.ofNat m)]) rfl ?_
    refine G.join (fun q : Heap => Keep h46 q [s] ∧ Arv Z q s ks .char (Int32.ofNat m) ((cs.take (min 15 m)).map Value.int) (.int 0)) (fun q => (q, 2, 42, 534, #[.val (.int se), .val (.int fi), .val (.long lo), .second, .val (.long hi), .second, .val (.int (se &&& (15 : Int32))), .val (.int (Int32.ofNat m)), .val (.int (Int32.ofNat d0)), .val (.ref a4), .val (.ref s), .unset, .unset, .unset], [])) ?_ ?_
    · intro J
      refine G.icle (o := (13)) (pc' := 534) (by decide +kernel) (by decide) rfl ?_ ?_
      · intro q74
        have lm : ¬ 14 < m := fun z => q74 ((nlt2 (i := 14) m2 (by decide)).mpr z)
        exact J _ ⟨KSx14, by rw [show min 15 m = min 14 m from by omega]; exact SAx14⟩
      · intro q74
        have lm : 14 < m := (nlt2 (i := 14) m2 (by decide)).mp q74
        have SB : Arv Z y14 s ks .char (Int32.ofNat m) ((cs.take 14).map Value.int) (.int 0) := by rw [show min 14 m = 14 from by omega] at SAx14; exact SAx14
        refine G.seg [(524, .aload 10, 2), (526, .bipush 14, 2), (528, .aload 9, 2), (530, .bipush 14, 2)] (by decide +kernel) (pc' := 532) (L' := #[.val (.int se), .val (.int fi), .val (.long lo), .second, .val (.long hi), .second, .val (.int (se &&& (15 : Int32))), .val (.int (Int32.ofNat m)), .val (.int (Int32.ofNat d0)), .val (.ref a4), .val (.ref s), .unset, .unset, .unset]) (S' := [.int (14 : Int32), .ref a4, .int (14 : Int32), .ref s]) rfl ?_
        refine G.caload (v := .int (cs.getD 14 0)) (by decide +kernel) (AL.keep KSx14 (ninS nas nin0)) ⟨by decide, by decide⟩ (gv cs 14) ?_
        refine G.castore (i := 14) (x' := cs.getD 14 0) (by decide +kernel) (sto (i := 14) SB) ns ⟨by decide, q74⟩ rfl (stl (cs := cs) (i := 14) (by rw [hc21]; decide)) (nar_b8 (lat_getD hlat 14)) ?_
        intro h75 K75 A75
        rw [tk (cs := cs) (i := 14) (by rw [hc21]; decide)] at A75
        have KT75 : Keep h46 h75 [s] := Keep.trans KSx14 K75 (allS (Or.inl (List.mem_singleton.mpr rfl)) all0)
        exact J _ ⟨KT75, by rw [show min 15 m = 15 from by omega]; exact A75⟩
    rintro y15 ⟨KSx15, SAx15⟩
    dsimp only
    refine G.seg [(534, .aload 10, 2)] (by decide +kernel) (pc' := 536) (L' := #[.val (.int se), .val (.int fi), .val (.long lo), .second, .val (.long hi), .second, .val (.int (se &&& (15 : Int32))), .val (.int (Int32.ofNat m)), .val (.int (Int32.ofNat d0)), .val (.ref a4), .val (.ref s), .unset, .unset, .unset]) (S' := [.ref s]) rfl ?_
    refine G.arrlen (by decide +kernel) SAx15 ?_
    refine G.seg [(537, .bipush 15, 2)] (by decide +kernel) (pc' := 539) (L' := #[.val (.int se), .val (.int fi), .val (.long lo), .second, .val (.long hi), .second, .val (.int (se &&& (15 : Int32))), .val (.int (Int32.ofNat m)), .val (.int (Int32.ofNat d0)), .val (.ref a4), .val (.ref s), .unset, .unset, .unset]) (S' := [.int (15 : Int32), .int (Int32.ofNat m)]) rfl ?_
    refine G.join (fun q : Heap => Keep h46 q [s] ∧ Arv Z q s ks .char (Int32.ofNat m) ((cs.take (min 16 m)).map Value.int) (.int 0)) (fun q => (q, 2, 42, 552, #[.val (.int se), .val (.int fi), .val (.long lo), .second, .val (.long hi), .second, .val (.int (se &&& (15 : Int32))), .val (.int (Int32.ofNat m)), .val (.int (Int32.ofNat d0)), .val (.ref a4), .val (.ref s), .unset, .unset, .unset], [])) ?_ ?_
    · intro J
      refine G.icle (o := (13)) (pc' := 552) (by decide +kernel) (by decide) rfl ?_ ?_
      · intro q76
        have lm : ¬ 15 < m := fun z => q76 ((nlt2 (i := 15) m2 (by decide)).mpr z)
        exact J _ ⟨KSx15, by rw [show min 16 m = min 15 m from by omega]; exact SAx15⟩
      · intro q76
        have lm : 15 < m := (nlt2 (i := 15) m2 (by decide)).mp q76
        have SB : Arv Z y15 s ks .char (Int32.ofNat m) ((cs.take 15).map Value.int) (.int 0) := by rw [show min 15 m = 15 from by omega] at SAx15; exact SAx15
        refine G.seg [(542, .aload 10, 2), (544, .bipush 15, 2), (546, .aload 9, 2), (548, .bipush 15, 2)] (by decide +kernel) (pc' := 550) (L' := #[.val (.int se), .val (.int fi), .val (.long lo), .second, .val (.long hi), .second, .val (.int (se &&& (15 : Int32))), .val (.int (Int32.ofNat m)), .val (.int (Int32.ofNat d0)), .val (.ref a4), .val (.ref s), .unset, .unset, .unset]) (S' := [.int (15 : Int32), .ref a4, .int (15 : Int32), .ref s]) rfl ?_
        refine G.caload (v := .int (cs.getD 15 0)) (by decide +kernel) (AL.keep KSx15 (ninS nas nin0)) ⟨by decide, by decide⟩ (gv cs 15) ?_
        refine G.castore (i := 15) (x' := cs.getD 15 0) (by decide +kernel) (sto (i := 15) SB) ns ⟨by decide, q76⟩ rfl (stl (cs := cs) (i := 15) (by rw [hc21]; decide)) (nar_b8 (lat_getD hlat 15)) ?_
        intro h77 K77 A77
        rw [tk (cs := cs) (i := 15) (by rw [hc21]; decide)] at A77
        have KT77 : Keep h46 h77 [s] := Keep.trans KSx15 K77 (allS (Or.inl (List.mem_singleton.mpr rfl)) all0)
        exact J _ ⟨KT77, by rw [show min 16 m = 16 from by omega]; exact A77⟩
    rintro y16 ⟨KSx16, SAx16⟩
    dsimp only
    refine G.seg [(552, .aload 10, 2)] (by decide +kernel) (pc' := 554) (L' := #[.val (.int se), .val (.int fi), .val (.long lo), .second, .val (.long hi), .second, .val (.int (se &&& (15 : Int32))), .val (.int (Int32.ofNat m)), .val (.int (Int32.ofNat d0)), .val (.ref a4), .val (.ref s), .unset, .unset, .unset]) (S' := [.ref s]) rfl ?_
    refine G.arrlen (by decide +kernel) SAx16 ?_
    refine G.seg [(555, .bipush 16, 2)] (by decide +kernel) (pc' := 557) (L' := #[.val (.int se), .val (.int fi), .val (.long lo), .second, .val (.long hi), .second, .val (.int (se &&& (15 : Int32))), .val (.int (Int32.ofNat m)), .val (.int (Int32.ofNat d0)), .val (.ref a4), .val (.ref s), .unset, .unset, .unset]) (S' := [.int (16 : Int32), .int (Int32.ofNat m)]) rfl ?_
    refine G.join (fun q : Heap => Keep h46 q [s] ∧ Arv Z q s ks .char (Int32.ofNat m) ((cs.take (min 17 m)).map Value.int) (.int 0)) (fun q => (q, 2, 42, 570, #[.val (.int se), .val (.int fi), .val (.long lo), .second, .val (.long hi), .second, .val (.int (se &&& (15 : Int32))), .val (.int (Int32.ofNat m)), .val (.int (Int32.ofNat d0)), .val (.ref a4), .val (.ref s), .unset, .unset, .unset], [])) ?_ ?_
    · intro J
      refine G.icle (o := (13)) (pc' := 570) (by decide +kernel) (by decide) rfl ?_ ?_
      · intro q78
        have lm : ¬ 16 < m := fun z => q78 ((nlt2 (i := 16) m2 (by decide)).mpr z)
        exact J _ ⟨KSx16, by rw [show min 17 m = min 16 m from by omega]; exact SAx16⟩
      · intro q78
        have lm : 16 < m := (nlt2 (i := 16) m2 (by decide)).mp q78
        have SB : Arv Z y16 s ks .char (Int32.ofNat m) ((cs.take 16).map Value.int) (.int 0) := by rw [show min 16 m = 16 from by omega] at SAx16; exact SAx16
        refine G.seg [(560, .aload 10, 2), (562, .bipush 16, 2), (564, .aload 9, 2), (566, .bipush 16, 2)] (by decide +kernel) (pc' := 568) (L' := #[.val (.int se), .val (.int fi), .val (.long lo), .second, .val (.long hi), .second, .val (.int (se &&& (15 : Int32))), .val (.int (Int32.ofNat m)), .val (.int (Int32.ofNat d0)), .val (.ref a4), .val (.ref s), .unset, .unset, .unset]) (S' := [.int (16 : Int32), .ref a4, .int (16 : Int32), .ref s]) rfl ?_
        refine G.caload (v := .int (cs.getD 16 0)) (by decide +kernel) (AL.keep KSx16 (ninS nas nin0)) ⟨by decide, by decide⟩ (gv cs 16) ?_
        refine G.castore (i := 16) (x' := cs.getD 16 0) (by decide +kernel) (sto (i := 16) SB) ns ⟨by decide, q78⟩ rfl (stl (cs := cs) (i := 16) (by rw [hc21]; decide)) (nar_b8 (lat_getD hlat 16)) ?_
        intro h79 K79 A79
        rw [tk (cs := cs) (i := 16) (by rw [hc21]; decide)] at A79
        have KT79 : Keep h46 h79 [s] := Keep.trans KSx16 K79 (allS (Or.inl (List.mem_singleton.mpr rfl)) all0)
        exact J _ ⟨KT79, by rw [show min 17 m = 17 from by omega]; exact A79⟩
    rintro y17 ⟨KSx17, SAx17⟩
    dsimp only
    refine G.seg [(570, .aload 10, 2)] (by decide +kernel) (pc' := 572) (L' := #[.val (.int se), .val (.int fi), .val (.long lo), .second, .val (.long hi), .second, .val (.int (se &&& (15 : Int32))), .val (.int (Int32.ofNat m)), .val (.int (Int32.ofNat d0)), .val (.ref a4), .val (.ref s), .unset, .unset, .unset]) (S' := [.ref s]) rfl ?_
    refine G.arrlen (by decide +kernel) SAx17 ?_
    refine G.seg [(573, .bipush 17, 2)] (by decide +kernel) (pc' := 575) (L' := #[.val (.int se), .val (.int fi), .val (.long lo), .second, .val (.long hi), .second, .val (.int (se &&& (15 : Int32))), .val (.int (Int32.ofNat m)), .val (.int (Int32.ofNat d0)), .val (.ref a4), .val (.ref s), .unset, .unset, .unset]) (S' := [.int (17 : Int32), .int (Int32.ofNat m)]) rfl ?_
    refine G.join (fun q : Heap => Keep h46 q [s] ∧ Arv Z q s ks .char (Int32.ofNat m) ((cs.take (min 18 m)).map Value.int) (.int 0)) (fun q => (q, 2, 42, 588, #[.val (.int se), .val (.int fi), .val (.long lo), .second, .val (.long hi), .second, .val (.int (se &&& (15 : Int32))), .val (.int (Int32.ofNat m)), .val (.int (Int32.ofNat d0)), .val (.ref a4), .val (.ref s), .unset, .unset, .unset], [])) ?_ ?_
    · intro J
      refine G.icle (o := (13)) (pc' := 588) (by decide +kernel) (by decide) rfl ?_ ?_
      · intro q80
        have lm : ¬ 17 < m := fun z => q80 ((nlt2 (i := 17) m2 (by decide)).mpr z)
        exact J _ ⟨KSx17, by rw [show min 18 m = min 17 m from by omega]; exact SAx17⟩
      · intro q80
        have lm : 17 < m := (nlt2 (i := 17) m2 (by decide)).mp q80
        have SB : Arv Z y17 s ks .char (Int32.ofNat m) ((cs.take 17).map Value.int) (.int 0) := by rw [show min 17 m = 17 from by omega] at SAx17; exact SAx17
        refine G.seg [(578, .aload 10, 2), (580, .bipush 17, 2), (582, .aload 9, 2), (584, .bipush 17, 2)] (by decide +kernel) (pc' := 586) (L' := #[.val (.int se), .val (.int fi), .val (.long lo), .second, .val (.long hi), .second, .val (.int (se &&& (15 : Int32))), .val (.int (Int32.ofNat m)), .val (.int (Int32.ofNat d0)), .val (.ref a4), .val (.ref s), .unset, .unset, .unset]) (S' := [.int (17 : Int32), .ref a4, .int (17 : Int32), .ref s]) rfl ?_
        refine G.caload (v := .int (cs.getD 17 0)) (by decide +kernel) (AL.keep KSx17 (ninS nas nin0)) ⟨by decide, by decide⟩ (gv cs 17) ?_
        refine G.castore (i := 17) (x' := cs.getD 17 0) (by decide +kernel) (sto (i := 17) SB) ns ⟨by decide, q80⟩ rfl (stl (cs := cs) (i := 17) (by rw [hc21]; decide)) (nar_b8 (lat_getD hlat 17)) ?_
        intro h81 K81 A81
        rw [tk (cs := cs) (i := 17) (by rw [hc21]; decide)] at A81
        have KT81 : Keep h46 h81 [s] := Keep.trans KSx17 K81 (allS (Or.inl (List.mem_singleton.mpr rfl)) all0)
        exact J _ ⟨KT81, by rw [show min 18 m = 18 from by omega]; exact A81⟩
    rintro y18 ⟨KSx18, SAx18⟩
    dsimp only
    refine G.seg [(588, .aload 10, 2)] (by decide +kernel) (pc' := 590) (L' := #[.val (.int se), .val (.int fi), .val (.long lo), .second, .val (.long hi), .second, .val (.int (se &&& (15 : Int32))), .val (.int (Int32.ofNat m)), .val (.int (Int32.ofNat d0)), .val (.ref a4), .val (.ref s), .unset, .unset, .unset]) (S' := [.ref s]) rfl ?_
    refine G.arrlen (by decide +kernel) SAx18 ?_
    refine G.seg [(591, .bipush 18, 2)] (by decide +kernel) (pc' := 593) (L' := #[.val (.int se), .val (.int fi), .val (.long lo), .second, .val (.long hi), .second, .val (.int (se &&& (15 : Int32))), .val (.int (Int32.ofNat m)), .val (.int (Int32.ofNat d0)), .val (.ref a4), .val (.ref s), .unset, .unset, .unset]) (S' := [.int (18 : Int32), .int (Int32.ofNat m)]) rfl ?_
    refine G.join (fun q : Heap => Keep h46 q [s] ∧ Arv Z q s ks .char (Int32.ofNat m) ((cs.take (min 19 m)).map Value.int) (.int 0)) (fun q => (q, 2, 42, 606, #[.val (.int se), .val (.int fi), .val (.long lo), .second, .val (.long hi), .second, .val (.int (se &&& (15 : Int32))), .val (.int (Int32.ofNat m)), .val (.int (Int32.ofNat d0)), .val (.ref a4), .val (.ref s), .unset, .unset, .unset], [])) ?_ ?_
    · intro J
      refine G.icle (o := (13)) (pc' := 606) (by decide +kernel) (by decide) rfl ?_ ?_
      · intro q82
        have lm : ¬ 18 < m := fun z => q82 ((nlt2 (i := 18) m2 (by decide)).mpr z)
        exact J _ ⟨KSx18, by rw [show min 19 m = min 18 m from by omega]; exact SAx18⟩
      · intro q82
        have lm : 18 < m := (nlt2 (i := 18) m2 (by decide)).mp q82
        have SB : Arv Z y18 s ks .char (Int32.ofNat m) ((cs.take 18).map Value.int) (.int 0) := by rw [show min 18 m = 18 from by omega] at SAx18; exact SAx18
        refine G.seg [(596, .aload 10, 2), (598, .bipush 18, 2), (600, .aload 9, 2), (602, .bipush 18, 2)] (by decide +kernel) (pc' := 604) (L' := #[.val (.int se), .val (.int fi), .val (.long lo), .second, .val (.long hi), .second, .val (.int (se &&& (15 : Int32))), .val (.int (Int32.ofNat m)), .val (.int (Int32.ofNat d0)), .val (.ref a4), .val (.ref s), .unset, .unset, .unset]) (S' := [.int (18 : Int32), .ref a4, .int (18 : Int32), .ref s]) rfl ?_
        refine G.caload (v := .int (cs.getD 18 0)) (by decide +kernel) (AL.keep KSx18 (ninS nas nin0)) ⟨by decide, by decide⟩ (gv cs 18) ?_
        refine G.castore (i := 18) (x' := cs.getD 18 0) (by decide +kernel) (sto (i := 18) SB) ns ⟨by decide, q82⟩ rfl (stl (cs := cs) (i := 18) (by rw [hc21]; decide)) (nar_b8 (lat_getD hlat 18)) ?_
        intro h83 K83 A83
        rw [tk (cs := cs) (i := 18) (by rw [hc21]; decide)] at A83
        have KT83 : Keep h46 h83 [s] := Keep.trans KSx18 K83 (allS (Or.inl (List.mem_singleton.mpr rfl)) all0)
        exact J _ ⟨KT83, by rw [show min 19 m = 19 from by omega]; exact A83⟩
    rintro y19 ⟨KSx19, SAx19⟩
    dsimp only
    refine G.seg [(606, .aload 10, 2)] (by decide +kernel) (pc' := 608) (L' := #[.val (.int se), .val (.int fi), .val (.long lo), .second, .val (.long hi), .second, .val (.int (se &&& (15 : Int32))), .val (.int (Int32.ofNat m)), .val (.int (Int32.ofNat d0)), .val (.ref a4), .val (.ref s), .unset, .unset, .unset]) (S' := [.ref s]) rfl ?_
    refine G.arrlen (by decide +kernel) SAx19 ?_
    refine G.seg [(609, .bipush 19, 2)] (by decide +kernel) (pc' := 611) (L' := #[.val (.int se), .val (.int fi), .val (.long lo), .second, .val (.long hi), .second, .val (.int (se &&& (15 : Int32))), .val (.int (Int32.ofNat m)), .val (.int (Int32.ofNat d0)), .val (.ref a4), .val (.ref s), .unset, .unset, .unset]) (S' := [.int (19 : Int32), .int (Int32.ofNat m)]) rfl ?_
    refine G.join (fun q : Heap => Keep h46 q [s] ∧ Arv Z q s ks .char (Int32.ofNat m) ((cs.take (min 20 m)).map Value.int) (.int 0)) (fun q => (q, 2, 42, 624, #[.val (.int se), .val (.int fi), .val (.long lo), .second, .val (.long hi), .second, .val (.int (se &&& (15 : Int32))), .val (.int (Int32.ofNat m)), .val (.int (Int32.ofNat d0)), .val (.ref a4), .val (.ref s), .unset, .unset, .unset], [])) ?_ ?_
    · intro J
      refine G.icle (o := (13)) (pc' := 624) (by decide +kernel) (by decide) rfl ?_ ?_
      · intro q84
        have lm : ¬ 19 < m := fun z => q84 ((nlt2 (i := 19) m2 (by decide)).mpr z)
        exact J _ ⟨KSx19, by rw [show min 20 m = min 19 m from by omega]; exact SAx19⟩
      · intro q84
        have lm : 19 < m := (nlt2 (i := 19) m2 (by decide)).mp q84
        have SB : Arv Z y19 s ks .char (Int32.ofNat m) ((cs.take 19).map Value.int) (.int 0) := by rw [show min 19 m = 19 from by omega] at SAx19; exact SAx19
        refine G.seg [(614, .aload 10, 2), (616, .bipush 19, 2), (618, .aload 9, 2), (620, .bipush 19, 2)] (by decide +kernel) (pc' := 622) (L' := #[.val (.int se), .val (.int fi), .val (.long lo), .second, .val (.long hi), .second, .val (.int (se &&& (15 : Int32))), .val (.int (Int32.ofNat m)), .val (.int (Int32.ofNat d0)), .val (.ref a4), .val (.ref s), .unset, .unset, .unset]) (S' := [.int (19 : Int32), .ref a4, .int (19 : Int32), .ref s]) rfl ?_
        refine G.caload (v := .int (cs.getD 19 0)) (by decide +kernel) (AL.keep KSx19 (ninS nas nin0)) ⟨by decide, by decide⟩ (gv cs 19) ?_
        refine G.castore (i := 19) (x' := cs.getD 19 0) (by decide +kernel) (sto (i := 19) SB) ns ⟨by decide, q84⟩ rfl (stl (cs := cs) (i := 19) (by rw [hc21]; decide)) (nar_b8 (lat_getD hlat 19)) ?_
        intro h85 K85 A85
        rw [tk (cs := cs) (i := 19) (by rw [hc21]; decide)] at A85
        have KT85 : Keep h46 h85 [s] := Keep.trans KSx19 K85 (allS (Or.inl (List.mem_singleton.mpr rfl)) all0)
        exact J _ ⟨KT85, by rw [show min 20 m = 20 from by omega]; exact A85⟩
    rintro y20 ⟨KSx20, SAx20⟩
    dsimp only
    refine G.seg [(624, .aload 10, 2)] (by decide +kernel) (pc' := 626) (L' := #[.val (.int se), .val (.int fi), .val (.long lo), .second, .val (.long hi), .second, .val (.int (se &&& (15 : Int32))), .val (.int (Int32.ofNat m)), .val (.int (Int32.ofNat d0)), .val (.ref a4), .val (.ref s), .unset, .unset, .unset]) (S' := [.ref s]) rfl ?_
    refine G.arrlen (by decide +kernel) SAx20 ?_
    refine G.seg [(627, .bipush 20, 2)] (by decide +kernel) (pc' := 629) (L' := #[.val (.int se), .val (.int fi), .val (.long lo), .second, .val (.long hi), .second, .val (.int (se &&& (15 : Int32))), .val (.int (Int32.ofNat m)), .val (.int (Int32.ofNat d0)), .val (.ref a4), .val (.ref s), .unset, .unset, .unset]) (S' := [.int (20 : Int32), .int (Int32.ofNat m)]) rfl ?_
    refine G.join (fun q : Heap => Keep h46 q [s] ∧ Arv Z q s ks .char (Int32.ofNat m) ((cs.take (min 21 m)).map Value.int) (.int 0)) (fun q => (q, 2, 42, 642, #[.val (.int se), .val (.int fi), .val (.long lo), .second, .val (.long hi), .second, .val (.int (se &&& (15 : Int32))), .val (.int (Int32.ofNat m)), .val (.int (Int32.ofNat d0)), .val (.ref a4), .val (.ref s), .unset, .unset, .unset], [])) ?_ ?_
    · intro J
      refine G.icle (o := (13)) (pc' := 642) (by decide +kernel) (by decide) rfl ?_ ?_
      · intro q86
        have lm : ¬ 20 < m := fun z => q86 ((nlt2 (i := 20) m2 (by decide)).mpr z)
        exact J _ ⟨KSx20, by rw [show min 21 m = min 20 m from by omega]; exact SAx20⟩
      · intro q86
        have lm : 20 < m := (nlt2 (i := 20) m2 (by decide)).mp q86
        have SB : Arv Z y20 s ks .char (Int32.ofNat m) ((cs.take 20).map Value.int) (.int 0) := by rw [show min 20 m = 20 from by omega] at SAx20; exact SAx20
        refine G.seg [(632, .aload 10, 2), (634, .bipush 20, 2), (636, .aload 9, 2), (638, .bipush 20, 2)] (by decide +kernel) (pc' := 640) (L' := #[.val (.int se), .val (.int fi), .val (.long lo), .second, .val (.long hi), .second, .val (.int (se &&& (15 : Int32))), .val (.int (Int32.ofNat m)), .val (.int (Int32.ofNat d0)), .val (.ref a4), .val (.ref s), .unset, .unset, .unset]) (S' := [.int (20 : Int32), .ref a4, .int (20 : Int32), .ref s]) rfl ?_
        refine G.caload (v := .int (cs.getD 20 0)) (by decide +kernel) (AL.keep KSx20 (ninS nas nin0)) ⟨by decide, by decide⟩ (gv cs 20) ?_
        refine G.castore (i := 20) (x' := cs.getD 20 0) (by decide +kernel) (sto (i := 20) SB) ns ⟨by decide, q86⟩ rfl (stl (cs := cs) (i := 20) (by rw [hc21]; decide)) (nar_b8 (lat_getD hlat 20)) ?_
        intro h87 K87 A87
        rw [tk (cs := cs) (i := 20) (by rw [hc21]; decide)] at A87
        have KT87 : Keep h46 h87 [s] := Keep.trans KSx20 K87 (allS (Or.inl (List.mem_singleton.mpr rfl)) all0)
        exact J _ ⟨KT87, by rw [show min 21 m = 21 from by omega]; exact A87⟩
    rintro y21 ⟨KSx21, SAx21⟩
    dsimp only
    have SF : Arv Z y21 s ks .char (Int32.ofNat m) ((cs.take m).map Value.int) (.int 0) := by rw [show min 21 m = m from by omega] at SAx21; exact SAx21
    refine G.seg [(642, .aload 9, 2), (644, .iconst 1, 1)] (by decide +kernel) (pc' := 645) (L' := #[.val (.int se), .val (.int fi), .val (.long lo), .second, .val (.long hi), .second, .val (.int (se &&& (15 : Int32))), .val (.int (Int32.ofNat m)), .val (.int (Int32.ofNat d0)), .val (.ref a4), .val (.ref s), .unset, .unset, .unset]) (S' := [.int (1 : Int32), .ref a4]) rfl ?_
    refine G.caload (v := .int (cs.getD 1 0)) (by decide +kernel) (AL.keep KSx21 (ninS nas nin0)) ⟨by decide, by decide⟩ (gv cs 1) ?_
    refine G.seg [(646, .bipush 48, 2), (648, .isub, 1)] (by decide +kernel) (pc' := 649) (L' := #[.val (.int se), .val (.int fi), .val (.long lo), .second, .val (.long hi), .second, .val (.int (se &&& (15 : Int32))), .val (.int (Int32.ofNat m)), .val (.int (Int32.ofNat d0)), .val (.ref a4), .val (.ref s), .unset, .unset, .unset]) (S' := [.int ((cs.getD 1 0) - (48 : Int32))]) rfl ?_
    rw [show cs.getD 1 0 - (48 : Int32) = Int32.ofNat (ds.getD 1 0) from by rw [ecs]; exact dsub hd (by omega)]
    refine G.seg [(649, .istore 11, 2)] (by decide +kernel) (pc' := 651) (L' := #[.val (.int se), .val (.int fi), .val (.long lo), .second, .val (.long hi), .second, .val (.int (se &&& (15 : Int32))), .val (.int (Int32.ofNat m)), .val (.int (Int32.ofNat d0)), .val (.ref a4), .val (.ref s), .val (.int (Int32.ofNat (ds.getD 1 0))), .unset, .unset]) (S' := []) rfl ?_
    refine G.seg [(651, .aload 9, 2), (653, .iconst 2, 1)] (by decide +kernel) (pc' := 654) (L' := #[.val (.int se), .val (.int fi), .val (.long lo), .second, .val (.long hi), .second, .val (.int (se &&& (15 : Int32))), .val (.int (Int32.ofNat m)), .val (.int (Int32.ofNat d0)), .val (.ref a4), .val (.ref s), .val (.int (Int32.ofNat (ds.getD 1 0))), .unset, .unset]) (S' := [.int (2 : Int32), .ref a4]) rfl ?_
    refine G.caload (v := .int (cs.getD 2 0)) (by decide +kernel) (AL.keep KSx21 (ninS nas nin0)) ⟨by decide, by decide⟩ (gv cs 2) ?_
    refine G.seg [(655, .bipush 48, 2), (657, .isub, 1)] (by decide +kernel) (pc' := 658) (L' := #[.val (.int se), .val (.int fi), .val (.long lo), .second, .val (.long hi), .second, .val (.int (se &&& (15 : Int32))), .val (.int (Int32.ofNat m)), .val (.int (Int32.ofNat d0)), .val (.ref a4), .val (.ref s), .val (.int (Int32.ofNat (ds.getD 1 0))), .unset, .unset]) (S' := [.int ((cs.getD 2 0) - (48 : Int32))]) rfl ?_
    rw [show cs.getD 2 0 - (48 : Int32) = Int32.ofNat (ds.getD 2 0) from by rw [ecs]; exact dsub hd (by omega)]
    refine G.seg [(658, .istore 12, 2)] (by decide +kernel) (pc' := 660) (L' := #[.val (.int se), .val (.int fi), .val (.long lo), .second, .val (.long hi), .second, .val (.int (se &&& (15 : Int32))), .val (.int (Int32.ofNat m)), .val (.int (Int32.ofNat d0)), .val (.ref a4), .val (.ref s), .val (.int (Int32.ofNat (ds.getD 1 0))), .val (.int (Int32.ofNat (ds.getD 2 0))), .unset]) (S' := []) rfl ?_
    refine G.seg [(660, .iload 7, 2), (662, .iconst 4, 1)] (by decide +kernel) (pc' := 663) (L' := #[.val (.int se), .val (.int fi), .val (.long lo), .second, .val (.long hi), .second, .val (.int (se &&& (15 : Int32))), .val (.int (Int32.ofNat m)), .val (.int (Int32.ofNat d0)), .val (.ref a4), .val (.ref s), .val (.int (Int32.ofNat (ds.getD 1 0))), .val (.int (Int32.ofNat (ds.getD 2 0))), .unset]) (S' := [.int (4 : Int32), .int (Int32.ofNat m)]) rfl ?_
    refine G.join (fun e : Int32 => e = Int32.ofNat (expE m d0 (ds.getD 1 0) (ds.getD 2 0))) (fun e : Int32 => (y21, 2, 42, 722, #[.val (.int se), .val (.int fi), .val (.long lo), .second, .val (.long hi), .second, .val (.int (se &&& (15 : Int32))), .val (.int (Int32.ofNat m)), .val (.int (Int32.ofNat d0)), .val (.ref a4), .val (.ref s), .val (.int (Int32.ofNat (ds.getD 1 0))), .val (.int (Int32.ofNat (ds.getD 2 0))), .val (.int e)], [])) ?_ ?_
    · intro J88
      refine G.iclt (o := (11)) (pc' := 674) (by decide +kernel) (by decide) rfl ?_ ?_
      · intro q89
        refine G.seg [(674, .iload 7, 2), (676, .iconst 1, 1)] (by decide +kernel) (pc' := 677) (L' := #[.val (.int se), .val (.int fi), .val (.long lo), .second, .val (.long hi), .second, .val (.int (se &&& (15 : Int32))), .val (.int (Int32.ofNat m)), .val (.int (Int32.ofNat d0)), .val (.ref a4), .val (.ref s), .val (.int (Int32.ofNat (ds.getD 1 0))), .val (.int (Int32.ofNat (ds.getD 2 0))), .unset]) (S' := [.int (1 : Int32), .int (Int32.ofNat m)]) rfl ?_
        refine G.icne (o := (10)) (pc' := 687) (by decide +kernel) (by decide) rfl ?_ ?_
        · intro q90
          refine G.seg [(687, .iload 7, 2), (689, .iconst 2, 1)] (by decide +kernel) (pc' := 690) (L' := #[.val (.int se), .val (.int fi), .val (.long lo), .second, .val (.long hi), .second, .val (.int (se &&& (15 : Int32))), .val (.int (Int32.ofNat m)), .val (.int (Int32.ofNat d0)), .val (.ref a4), .val (.ref s), .val (.int (Int32.ofNat (ds.getD 1 0))), .val (.int (Int32.ofNat (ds.getD 2 0))), .unset]) (S' := [.int (2 : Int32), .int (Int32.ofNat m)]) rfl ?_
          refine G.icne (o := (16)) (pc' := 706) (by decide +kernel) (by decide) rfl ?_ ?_
          · intro q91
            refine G.seg [(706, .iload 8, 2), (708, .bipush 100, 2), (710, .imul, 1), (711, .iload 11, 2), (713, .bipush 10, 2), (715, .imul, 1), (716, .iadd, 1), (717, .iload 12, 2), (719, .iadd, 1), (720, .istore 13, 2)] (by decide +kernel) (pc' := 722) (L' := #[.val (.int se), .val (.int fi), .val (.long lo), .second, .val (.long hi), .second, .val (.int (se &&& (15 : Int32))), .val (.int (Int32.ofNat m)), .val (.int (Int32.ofNat d0)), .val (.ref a4), .val (.ref s), .val (.int (Int32.ofNat (ds.getD 1 0))), .val (.int (Int32.ofNat (ds.getD 2 0))), .val (.int ((((Int32.ofNat d0) * (100 : Int32)) + ((Int32.ofNat (ds.getD 1 0)) * (10 : Int32))) + (Int32.ofNat (ds.getD 2 0))))]) (S' := []) rfl ?_
            exact J88 ((((Int32.ofNat d0) * (100 : Int32)) + ((Int32.ofNat (ds.getD 1 0)) * (10 : Int32))) + (Int32.ofNat (ds.getD 2 0))) (ex4 m2 q89 q90 q91)
          · intro q91
            refine G.seg [(693, .iload 8, 2), (695, .bipush 10, 2), (697, .imul, 1), (698, .iload 11, 2), (700, .iadd, 1), (701, .istore 13, 2)] (by decide +kernel) (pc' := 703) (L' := #[.val (.int se), .val (.int fi), .val (.long lo), .second, .val (.long hi), .second, .val (.int (se &&& (15 : Int32))), .val (.int (Int32.ofNat m)), .val (.int (Int32.ofNat d0)), .val (.ref a4), .val (.ref s), .val (.int (Int32.ofNat (ds.getD 1 0))), .val (.int (Int32.ofNat (ds.getD 2 0))), .val (.int (((Int32.ofNat d0) * (10 : Int32)) + (Int32.ofNat (ds.getD 1 0))))]) (S' := []) rfl ?_
            refine G.seg [(703, .goto 19, 3)] (by decide +kernel) (pc' := 722) (L' := #[.val (.int se), .val (.int fi), .val (.long lo), .second, .val (.long hi), .second, .val (.int (se &&& (15 : Int32))), .val (.int (Int32.ofNat m)), .val (.int (Int32.ofNat d0)), .val (.ref a4), .val (.ref s), .val (.int (Int32.ofNat (ds.getD 1 0))), .val (.int (Int32.ofNat (ds.getD 2 0))), .val (.int (((Int32.ofNat d0) * (10 : Int32)) + (Int32.ofNat (ds.getD 1 0))))]) (S' := []) rfl ?_
            exact J88 (((Int32.ofNat d0) * (10 : Int32)) + (Int32.ofNat (ds.getD 1 0))) (ex3 m2 q89 q90 q91)
        · intro q90
          refine G.seg [(680, .iload 8, 2), (682, .istore 13, 2)] (by decide +kernel) (pc' := 684) (L' := #[.val (.int se), .val (.int fi), .val (.long lo), .second, .val (.long hi), .second, .val (.int (se &&& (15 : Int32))), .val (.int (Int32.ofNat m)), .val (.int (Int32.ofNat d0)), .val (.ref a4), .val (.ref s), .val (.int (Int32.ofNat (ds.getD 1 0))), .val (.int (Int32.ofNat (ds.getD 2 0))), .val (.int (Int32.ofNat d0))]) (S' := []) rfl ?_
          refine G.seg [(684, .goto 38, 3)] (by decide +kernel) (pc' := 722) (L' := #[.val (.int se), .val (.int fi), .val (.long lo), .second, .val (.long hi), .second, .val (.int (se &&& (15 : Int32))), .val (.int (Int32.ofNat m)), .val (.int (Int32.ofNat d0)), .val (.ref a4), .val (.ref s), .val (.int (Int32.ofNat (ds.getD 1 0))), .val (.int (Int32.ofNat (ds.getD 2 0))), .val (.int (Int32.ofNat d0))]) (S' := []) rfl ?_
          exact J88 (Int32.ofNat d0) (ex2 m2 q89 q90)
      · intro q89
        refine G.seg [(666, .sipush 1000, 3), (669, .istore 13, 2)] (by decide +kernel) (pc' := 671) (L' := #[.val (.int se), .val (.int fi), .val (.long lo), .second, .val (.long hi), .second, .val (.int (se &&& (15 : Int32))), .val (.int (Int32.ofNat m)), .val (.int (Int32.ofNat d0)), .val (.ref a4), .val (.ref s), .val (.int (Int32.ofNat (ds.getD 1 0))), .val (.int (Int32.ofNat (ds.getD 2 0))), .val (.int (1000 : Int32))]) (S' := []) rfl ?_
        refine G.seg [(671, .goto 51, 3)] (by decide +kernel) (pc' := 722) (L' := #[.val (.int se), .val (.int fi), .val (.long lo), .second, .val (.long hi), .second, .val (.int (se &&& (15 : Int32))), .val (.int (Int32.ofNat m)), .val (.int (Int32.ofNat d0)), .val (.ref a4), .val (.ref s), .val (.int (Int32.ofNat (ds.getD 1 0))), .val (.int (Int32.ofNat (ds.getD 2 0))), .val (.int (1000 : Int32))]) (S' := []) rfl ?_
        exact J88 (1000 : Int32) (ex1 m2 q89)
    rintro e ee
    dsimp only
    have tl : (cs.take m).length = m := by rw [List.length_take]; omega
    have EB := expB (m := m) d01 d09 (d9 hd (i := 1) (by omega)) (d9 hd (i := 2) (by omega))
    have ec : capF 1000 (cs.take m) = Int64.ofNat (expE m d0 (ds.getD 1 0) (ds.getD 2 0)) := by rw [ecs, ← h00]; exact cap_ok h21 hd h0g m1 m2
    refine G.new (by decide +kernel) (tw 14 rfl) (tw 15 rfl) (tw 16 rfl) (lb rfl) (lb rfl) ?_
    intro h92 a92 g92 n92 K92 E92 D92
    refine G.seg [(725, .dup, 1), (726, .aload 10, 2)] (by decide +kernel) (pc' := 728) (L' := #[.val (.int se), .val (.int fi), .val (.long lo), .second, .val (.long hi), .second, .val (.int (se &&& (15 : Int32))), .val (.int (Int32.ofNat m)), .val (.int (Int32.ofNat d0)), .val (.ref a4), .val (.ref s), .val (.int (Int32.ofNat (ds.getD 1 0))), .val (.int (Int32.ofNat (ds.getD 2 0))), .val (.int e)]) (S' := [.ref s, .ref a92, .ref a92]) rfl ?_
    refine G.special (y := N1) (a := a92) (argsL := [.ref s]) (rest := [.ref a92]) (W := 1) rfl (by decide +kernel) (tw 17 rfl) (tw 18 rfl) (tw 19 rfl) (by decide)
      (BK.more (kc' := 1) (ks' := 21) (Nat.le_refl _) (by rw [tl]; exact m2) (newStr1 (cs := cs.take m) sw1 (tw 15 rfl) n92 E92 (D92 (Or.inr (tw 42 rfl)) (ty := .array (.byte)) (by decide)) (D92 (Or.inr (tw 40 rfl)) (ty := .byte) (by decide)) (by rw [tl]; exact SF.keep K92 nin0) hCS (fun c hc => hlat c (List.mem_of_mem_take hc)) (by omega) (by omega) (lb rfl) (lb rfl))) (lenOf pdN1 rfl) rfl (Nat.le_of_eq rfl) rfl (lb rfl) (lb rfl) ?_
    rintro _ h93 ⟨rfl, K93, F93⟩
    refine G.static (y := ⟨"com/example/mynah/mynah/FeedReader", "pageSize", "(Ljava/lang/String;)I"⟩) (argsL := [.ref a92]) (rest := []) (W := 0) (by decide +kernel) (tw 0 rfl) (tw 1 rfl) (tw 2 rfl) (tw 3 rfl) (by decide) ((pgsC l Z a0 n0 h93 a92 (cs.take m) F93 hCS hFM (by rw [ec]; exact cge EB.1 EB.2)).pays (tw 3 rfl) (tw 2 rfl) (lb rfl) (lb rfl)) (lenOf pd11 rfl) rfl (Nat.le_of_eq rfl) rfl (lb rfl) (lb rfl) ?_
    rintro _ h94 ⟨rfl, rfl⟩
    refine G.seg [(734, .iload 13, 2)] (by decide +kernel) (pc' := 736) (L' := #[.val (.int se), .val (.int fi), .val (.long lo), .second, .val (.long hi), .second, .val (.int (se &&& (15 : Int32))), .val (.int (Int32.ofNat m)), .val (.int (Int32.ofNat d0)), .val (.ref a4), .val (.ref s), .val (.int (Int32.ofNat (ds.getD 1 0))), .val (.int (Int32.ofNat (ds.getD 2 0))), .val (.int e)]) (S' := [.int e, .int ((capF 1000 (cs.take m)).toInt32)]) rfl ?_
    refine G.icne (o := (7)) (pc' := 743) (by decide +kernel) (by decide) rfl (fun q95 => absurd (by rw [ec, i64n EB.2]; exact ee.symm) q95) ?_
    intro _
    refine G.seg [(739, .iconst 1, 1), (740, .goto 4, 3)] (by decide +kernel) (pc' := 744) (L' := #[.val (.int se), .val (.int fi), .val (.long lo), .second, .val (.long hi), .second, .val (.int (se &&& (15 : Int32))), .val (.int (Int32.ofNat m)), .val (.int (Int32.ofNat d0)), .val (.ref a4), .val (.ref s), .val (.int (Int32.ofNat (ds.getD 1 0))), .val (.int (Int32.ofNat (ds.getD 2 0))), .val (.int e)]) (S' := [.int (1 : Int32)]) rfl ?_
    exact G.retN (by decide +kernel) rfl (Or.inl rfl) rfl rfl (lb rfl) (lb rfl)
  · intro q1
    refine G.seg [(11, .aconst_null, 1)] (by decide +kernel) (pc' := 12) (L' := #[.val (.int se), .val (.int fi), .val (.long lo), .second, .val (.long hi), .second, .val (.int (se &&& (15 : Int32))), .unset, .unset, .unset, .unset, .unset, .unset, .unset]) (S' := [.null]) rfl ?_
    refine G.static (y := ⟨"com/example/mynah/mynah/FeedReader", "pageSize", "(Ljava/lang/String;)I"⟩) (argsL := [.null]) (rest := []) (W := 0) (by decide +kernel) (tw 0 rfl) (tw 1 rfl) (tw 2 rfl) (tw 3 rfl) (by decide) ((pgnC l Z a0 n0 h).pays (tw 3 rfl) (tw 2 rfl) (lb rfl) (lb rfl)) (lenOf pd11 rfl) rfl (Nat.le_of_eq rfl) rfl (lb rfl) (lb rfl) ?_
    rintro _ h96 ⟨rfl, rfl⟩
    refine G.seg [(15, .sipush 1000, 3)] (by decide +kernel) (pc' := 18) (L' := #[.val (.int se), .val (.int fi), .val (.long lo), .second, .val (.long hi), .second, .val (.int (se &&& (15 : Int32))), .unset, .unset, .unset, .unset, .unset, .unset, .unset]) (S' := [.int (1000 : Int32), .int (1000 : Int32)]) rfl ?_
    refine G.icne (o := (7)) (pc' := 25) (by decide +kernel) (by decide) rfl (fun q97 => absurd rfl q97) ?_
    intro _
    refine G.seg [(21, .iconst 1, 1), (22, .goto 4, 3)] (by decide +kernel) (pc' := 26) (L' := #[.val (.int se), .val (.int fi), .val (.long lo), .second, .val (.long hi), .second, .val (.int (se &&& (15 : Int32))), .unset, .unset, .unset, .unset, .unset, .unset, .unset]) (S' := [.int (1 : Int32)]) rfl ?_
    exact G.retN (by decide +kernel) rfl (Or.inl rfl) rfl rfl (lb rfl) (lb rfl)

set_option maxRecDepth 65536 in
set_option maxHeartbeats 4000000 in
theorem comes_1 {Post : Tables → Env → Array Value → State → Outcome → State → Prop} (hpost : ∀ tb e args s v u, (limb_1_1.after args s (.returned v) u = true ∧ limb_1_2.after args s (.returned v) u = true ∧ True) → Framed s (.returned v) u (Jvm.fieldLocs frame_1_writes args s ++ Jvm.arrayLocs frame_1_arrays args s ++ Jvm.staticLocs frame_1_statics s) room_1.cells room_1.slots → Post tb e args s (.returned v) u) :
    ArmFor flags0 classFile x code maxLocals ret World_1 tables_1 room_1 Calls_1 rest_1 Pre_1 Post := by
  intro l hfl _ _ p e ha hc hk s m args below hf hA hF happ hP
  obtain ⟨hcalls, hrest, hpre⟩ := hP
  obtain ⟨-, -, -, hnamed, -, -, -, hat⟩ := (Spec.applies_iff hf).mp happ
  obtain ⟨hg, hn⟩ := and_e (Cond.before_iff.mp (show (Jvm.Cond.and given_1 narrow_1).before args s = true from hpre))
  obtain ⟨hcount, hz0⟩ := and_e hg
  obtain ⟨ha0, hz1⟩ := and_e hz0
  obtain ⟨ha1, hz2⟩ := and_e hz1
  obtain ⟨ha2, hz3⟩ := and_e hz2
  have ha3 := hz3
  obtain ⟨w0, w1, w2, w3, rfl⟩ : ∃ w0 w1 w2 w3 : Value, args = #[w0, w1, w2, w3] := by
    have hs : args.size = 4 := by simpa [Cond.value, given_1] using hcount
    obtain ⟨L⟩ := args
    match L, hs with
    | [w0, w1, w2, w3], _ => exact ⟨w0, w1, w2, w3, rfl⟩
  obtain ⟨i0, e0⟩ := is_v ha0
  obtain rfl : w0 = (.int i0) := Option.some.inj e0
  obtain ⟨i1, e1⟩ := is_v ha1
  obtain rfl : w1 = (.int i1) := Option.some.inj e1
  obtain ⟨i2, e2⟩ := isL_v ha2
  obtain rfl : w2 = (.long i2) := Option.some.inj e2
  obtain ⟨i3, e3⟩ := isL_v ha3
  obtain rfl : w3 = (.long i3) := Option.some.inj e3
  have hw := fun d (hd : d ∈ tables_1) => atoms_spec (ws := Jvm.Cond.code x code maxLocals ret :: tables_1) hat d (List.mem_cons_of_mem _ hd)
  obtain ⟨hsets, hown0⟩ := atoms_of _ (rest_1_c_eq ▸ (show rest_1_c.before _ s = true from hrest))
  have n5 := not_v (Cond.before_iff.mp (hsets _ (List.mem_of_getElem? (i := 2) rfl)))
  obtain ⟨iC, eC⟩ := is_v (Cond.before_iff.mp (hsets _ (List.mem_of_getElem? (i := 1) rfl)))
  have hCS : CS s := ⟨iC, Sta.start eC (Or.inl (hsets _ (List.mem_of_getElem? (i := 0) rfl))), gotF (Cond.eq_ints eC (Term.int_eval (0))) n5⟩
  obtain ⟨vF, eF, rF⟩ := isR_v (Cond.before_iff.mp (hsets _ (List.mem_of_getElem? (i := 8) rfl)))
  have hFM : FM s := ⟨vF, Sta.start eF (Or.inl (hsets _ (List.mem_of_getElem? (i := 7) rfl))), rF⟩
  have hEL : EW s #[.int i0, .int i1, .long i2, .long i3] consts_1 := EW.nil
  have hCH : CHv s consts_1 s.vm s.heap := fun p hp => nomatch hp
  obtain ⟨n, o, h1, h2, h3, v, L, rfl, ⟨N, -, rfl⟩, -, hR, hWm⟩ := (lawC l s _ s.heap.size s.heap i0 i1 i2 i3 hCS hFM) hEL hw (Old.start s) p e ha hc hk s m _ below hf ((Spec.applies_iff_loose hf).mp happ).1 ⟨rfl, State.Warmed39.refl s, rfl, hCH⟩ trivial
  exact ⟨n, _, h1, h2, h3, hpost _ _ _ _ _ _ ⟨Cond.after_iff.mpr rfl, Cond.after_iff.mpr (eq_i res_at (Term.int_eval (1)) rfl), trivial⟩ ⟨hR.1, hWm rfl, (hR.2.2.2.sift fun y hy => Or.inr (N y hy)).mono (Nat.le_refl _) (Nat.le_refl _)⟩⟩
theorem main_1_1 : Claimed_1_1 := comes_1 fun _ _ _ _ _ _ h hF => ⟨h.1, hF⟩
theorem main_1_2 : Claimed_1_2 := comes_1 fun _ _ _ _ _ _ h hF => ⟨h.2.1, hF⟩

end Jvm.Pilot.@@N@@
namespace Jvm.Pilot.@@N@@
open Jvm Jvm.ClassFile Sem Op Lib Jvm.Free Jvm.Stand Jvm.Pilot.@@N@@.Jvm.D
/-! MADE BY PROGRAM (witnessworld.py) out of the Statement's table words and the real class files: 23 classes; the members and pool entries that the words name. The judged class is class 1, her method 1. -/
namespace start1
open Jvm.ClassFile
def u (s : String) : CpInfo := .utf8 (stringToUtf16 s)
/-- a pool by its gaps: so many unusable entries, then the entry; so many at the end -/
def gap : Nat → List CpInfo → List CpInfo
  | 0, r => r
  | n + 1, r => .unusable :: gap n r
def poolList (es : List (Nat × CpInfo)) (last : Nat) : List CpInfo := es.foldr (fun e r => gap e.1 (e.2 :: r)) (gap last [])
def pool (es : List (Nat × CpInfo)) (last : Nat) : Array CpInfo := ⟨poolList es last⟩
def fileOf (pool : Array CpInfo) (this : Nat) (attrs : Array Attribute := #[]) (ms : Array MethodInfo := #[]) (fl : Nat := 33) (sup : Nat := 0) (ifs : Array Nat := #[]) (fds : Array FieldInfo := #[]) : ClassFile where
  minorVersion := 0
  majorVersion := 65
  constantPool := pool
  accessFlags := fl
  thisClass := this
  superClass := sup
  interfaces := ifs
  fields := fds
  methods := ms
  attributes := attrs
def plain (name : String) (sup : Option ClassId) : Class where
  name := name
  kind := .ordinary
  loader := none
  accessFlags := 33
  super := sup
  interfaces := #[]
  cf := none
  fields := #[]
  methods := #[]
  instanceTypes := #[]
  staticTypes := #[]
  resolved := #[]
  callSites := []
  init := .initialized
  statics := none
  mirror := none

def pool0 : Array CpInfo := pool [(5, u "<init>"), (0, u "()V"), (1, .class_ 10), (1, u "java/lang/Object")] 113

def k0c0 : Code := { maxStack := 0, maxLocals := 1, code := object_method_1_code, exceptionTable := #[], attributes := #[] }
def k0m0 : Method := { name := "<init>", desc := "()V", sig := { parameters := [], returnType := none }, accessFlags := 1, code := some k0c0 }
/-- java/lang/Object -/
def k0 : Class := { plain "java/lang/Object" none with
  accessFlags := 33
  interfaces := #[]
  cf := some (fileOf pool0 8 #[] #[{ accessFlags := 1, nameIndex := 5, descriptorIndex := 6, attributes := #[] }] 33 0 #[] #[])
  fields := #[]
  methods := #[k0m0]
  instanceTypes := #[]
  staticTypes := #[]
  resolved := Array.replicate 124 none
  statics := none }

def pool1 : Array CpInfo := pool [(2, .class_ 4), (1, u "java/lang/Object"), (0, u "<init>"), (0, u "()V"), (0, .methodref 8 9), (0, .class_ 10), (0, .nameAndType 11 12), (0, u "com/example/mynah/mynah/FeedReader"), (0, u "pageSize"), (0, u "(Ljava/lang/String;)I"), (0, .integer 2147483647), (0, .methodref 15 16), (0, .class_ 17), (0, .nameAndType 18 19), (0, u "com/example/mynah/mynah/FeedReaderPageSizePinLaw"), (0, u "digit"), (0, u "(JI)C"), (0, .methodref 15 21), (0, .nameAndType 22 23), (0, u "make"), (0, u "(I)[C"), (0, .class_ 25), (0, u "java/lang/String"), (0, .methodref 24 27), (0, .nameAndType 5 28), (0, u "([C)V"), (0, .long 15), (3, u "law"), (0, u "(IIJJ)Z")] 5

def k1m0 : Method := { name := "<init>", desc := "()V", sig := { parameters := [], returnType := none }, accessFlags := 1, code := none }
def k1c1 : Code := { maxStack := 5, maxLocals := 14, code := code, exceptionTable := #[], attributes := #[] }
def k1m1 : Method := { name := "law", desc := "(IIJJ)Z", sig := { parameters := [.int, .int, .long, .long], returnType := some .boolean }, accessFlags := 9, code := some k1c1 }
def k1c2 : Code := { maxStack := 5, maxLocals := 3, code := method_3_code, exceptionTable := #[], attributes := #[] }
def k1m2 : Method := { name := "digit", desc := "(JI)C", sig := { parameters := [.long, .int], returnType := some .char }, accessFlags := 10, code := some k1c2 }
def k1c3 : Code := { maxStack := 2, maxLocals := 1, code := method_4_code, exceptionTable := #[], attributes := #[] }
def k1m3 : Method := { name := "make", desc := "(I)[C", sig := { parameters := [.int], returnType := some (.array .char) }, accessFlags := 10, code := some k1c3 }
/-- com/example/mynah/mynah/FeedReaderPageSizePinLaw -/
def k1 : Class := { plain "com/example/mynah/mynah/FeedReaderPageSizePinLaw" (some 0) with
  accessFlags := 49
  interfaces := #[]
  cf := some (fileOf pool1 15 #[] #[{ accessFlags := 1, nameIndex := 5, descriptorIndex := 6, attributes := #[] }, { accessFlags := 9, nameIndex := 33, descriptorIndex := 34, attributes := #[] }, { accessFlags := 10, nameIndex := 18, descriptorIndex := 19, attributes := #[] }, { accessFlags := 10, nameIndex := 22, descriptorIndex := 23, attributes := #[] }] 49 2 #[] #[])
  fields := #[]
  methods := #[k1m0, k1m1, k1m2, k1m3]
  instanceTypes := #[]
  staticTypes := #[]
  resolved := Array.replicate 40 none
  statics := none }

def pool2 : Array CpInfo := pool [(1, .class_ 2), (0, u "java/lang/AutoCloseable"), (0, .class_ 4), (0, u "java/lang/Object")] 7

/-- java/lang/AutoCloseable -/
def k2 : Class := { plain "java/lang/AutoCloseable" (some 0) with
  accessFlags := 1537
  interfaces := #[]
  cf := some (fileOf pool2 1 #[] #[] 1537 3 #[] #[])
  fields := #[]
  methods := #[]
  instanceTypes := #[]
  staticTypes := #[]
  resolved := Array.replicate 12 none
  statics := none }

def pool3 : Array CpInfo := pool [(6, u "Ljava/time/Duration;"), (1, .class_ 10), (1, u "com/example/mynah/mynah/FeedReader"), (3, .class_ 16), (1, u "java/lang/Object"), (6, u "ahead"), (0, u "Lcom/example/mynah/mynah/ReadAhead;"), (7, u "reads"), (0, u "Lcom/example/mynah/mynah/ReadQueue;"), (2, u "log"), (0, u "Lcom/example/mynah/mynah/EventLog;"), (3, u "waiting"), (0, u "Lcom/example/mynah/mynah/WaitingFetches;"), (6, .long 1000), (1, .methodref 52 53), (0, .class_ 54), (0, .nameAndType 55 56), (0, u "com/example/mynah/mynah/PlainDecimal"), (0, u "parseCapped"), (0, u "(Ljava/lang/String;J)J"), (135, u "PATIENCE"), (89, .class_ 283), (0, u "com/example/mynah/mynah/FeedReader$Attempt"), (146, u "MAX_WAIT"), (0, .class_ 432), (0, u "java/lang/AutoCloseable"), (0, u "MAX_PAGE_SIZE"), (0, u "I"), (2, u "READ_AHEAD"), (1, u "READS"), (6, u "pageSize"), (0, u "(Ljava/lang/String;)I")] 156

def k3c0 : Code := { maxStack := 4, maxLocals := 4, code := prog_11_method_4_code, exceptionTable := #[], attributes := #[] }
def k3m0 : Method := { name := "pageSize", desc := "(Ljava/lang/String;)I", sig := { parameters := [(.object "java/lang/String")], returnType := some .int }, accessFlags := 9, code := some k3c0 }
/-- com/example/mynah/mynah/FeedReader -/
def k3 : Class := { plain "com/example/mynah/mynah/FeedReader" (some 0) with
  accessFlags := 33
  interfaces := #[2]
  cf := some (fileOf pool3 8 #[.nestMembers #[282]] #[{ accessFlags := 9, nameIndex := 446, descriptorIndex := 447, attributes := #[] }] 33 14 #[431] #[{ accessFlags := 25, nameIndex := 433, descriptorIndex := 434, attributes := #[] }, { accessFlags := 25, nameIndex := 430, descriptorIndex := 6, attributes := #[] }, { accessFlags := 26, nameIndex := 437, descriptorIndex := 434, attributes := #[] }, { accessFlags := 26, nameIndex := 439, descriptorIndex := 434, attributes := #[] }, { accessFlags := 26, nameIndex := 192, descriptorIndex := 6, attributes := #[] }, { accessFlags := 18, nameIndex := 36, descriptorIndex := 37, attributes := #[] }, { accessFlags := 18, nameIndex := 41, descriptorIndex := 42, attributes := #[] }, { accessFlags := 18, nameIndex := 23, descriptorIndex := 24, attributes := #[] }, { accessFlags := 18, nameIndex := 32, descriptorIndex := 33, attributes := #[] }])
  fields := #[{ name := "MAX_PAGE_SIZE", type := .int, accessFlags := 25, slot := 0, constantValue := 0 }, { name := "MAX_WAIT", type := (.object "java/time/Duration"), accessFlags := 25, slot := 1, constantValue := 0 }, { name := "READ_AHEAD", type := .int, accessFlags := 26, slot := 2, constantValue := 0 }, { name := "READS", type := .int, accessFlags := 26, slot := 3, constantValue := 0 }, { name := "PATIENCE", type := (.object "java/time/Duration"), accessFlags := 26, slot := 4, constantValue := 0 }, { name := "log", type := (.object "com/example/mynah/mynah/EventLog"), accessFlags := 18, slot := 0, constantValue := 0 }, { name := "waiting", type := (.object "com/example/mynah/mynah/WaitingFetches"), accessFlags := 18, slot := 1, constantValue := 0 }, { name := "ahead", type := (.object "com/example/mynah/mynah/ReadAhead"), accessFlags := 18, slot := 2, constantValue := 0 }, { name := "reads", type := (.object "com/example/mynah/mynah/ReadQueue"), accessFlags := 18, slot := 3, constantValue := 0 }]
  methods := #[k3m0]
  instanceTypes := #[(.object "com/example/mynah/mynah/EventLog"), (.object "com/example/mynah/mynah/WaitingFetches"), (.object "com/example/mynah/mynah/ReadAhead"), (.object "com/example/mynah/mynah/ReadQueue")]
  staticTypes := #[.int, (.object "java/time/Duration"), .int, .int, (.object "java/time/Duration")]
  resolved := Array.replicate 604 none
  statics := none }

def pool4 : Array CpInfo := pool [(1, .class_ 2), (0, u "java/io/Serializable"), (0, .class_ 4), (0, u "java/lang/Object")] 2

/-- java/io/Serializable -/
def k4 : Class := { plain "java/io/Serializable" (some 0) with
  accessFlags := 1537
  interfaces := #[]
  cf := some (fileOf pool4 1 #[] #[] 1537 3 #[] #[])
  fields := #[]
  methods := #[]
  instanceTypes := #[]
  staticTypes := #[]
  resolved := Array.replicate 7 none
  statics := none }

def pool5 : Array CpInfo := pool [(1, .class_ 2), (0, u "java/lang/Comparable"), (0, .class_ 4), (0, u "java/lang/Object")] 7

/-- java/lang/Comparable -/
def k5 : Class := { plain "java/lang/Comparable" (some 0) with
  accessFlags := 1537
  interfaces := #[]
  cf := some (fileOf pool5 1 #[] #[] 1537 3 #[] #[])
  fields := #[]
  methods := #[]
  instanceTypes := #[]
  staticTypes := #[]
  resolved := Array.replicate 12 none
  statics := none }

def pool6 : Array CpInfo := pool [(2, .class_ 4), (1, u "java/lang/CharSequence"), (42, .class_ 48), (0, u "java/lang/CharSequence$1CodePointIterator"), (10, .class_ 60), (0, u "java/lang/CharSequence$1CharIterator"), (5, .class_ 67), (0, u "java/lang/Object")] 63

/-- java/lang/CharSequence -/
def k6 : Class := { plain "java/lang/CharSequence" (some 0) with
  accessFlags := 1537
  interfaces := #[]
  cf := some (fileOf pool6 2 #[.nestMembers #[47, 59]] #[] 1537 66 #[] #[])
  fields := #[]
  methods := #[]
  instanceTypes := #[]
  staticTypes := #[]
  resolved := Array.replicate 131 none
  statics := none }

def pool7 : Array CpInfo := pool [(1, .class_ 2), (0, u "java/lang/constant/Constable"), (0, .class_ 4), (0, u "java/lang/Object")] 6

/-- java/lang/constant/Constable -/
def k7 : Class := { plain "java/lang/constant/Constable" (some 0) with
  accessFlags := 1537
  interfaces := #[]
  cf := some (fileOf pool7 1 #[] #[] 1537 3 #[] #[])
  fields := #[]
  methods := #[]
  instanceTypes := #[]
  staticTypes := #[]
  resolved := Array.replicate 11 none
  statics := none }

def pool8 : Array CpInfo := pool [(1, .class_ 2), (0, u "java/lang/constant/ConstantDesc"), (0, .class_ 4), (0, u "java/lang/Object")] 32

/-- java/lang/constant/ConstantDesc -/
def k8 : Class := { plain "java/lang/constant/ConstantDesc" (some 0) with
  accessFlags := 1537
  interfaces := #[]
  cf := some (fileOf pool8 1 #[] #[] 1537 3 #[] #[])
  fields := #[]
  methods := #[]
  instanceTypes := #[]
  staticTypes := #[]
  resolved := Array.replicate 37 none
  statics := none }

def pool9 : Array CpInfo := pool [(1, .methodref 2 3), (0, .class_ 4), (0, .nameAndType 5 6), (0, u "java/lang/Object"), (0, u "<init>"), (0, u "()V"), (2, .fieldref 10 11), (0, .class_ 12), (0, .nameAndType 13 14), (0, u "java/lang/String"), (0, u "value"), (0, u "[B"), (0, .fieldref 10 16), (0, .nameAndType 17 18), (0, u "coder"), (0, u "B"), (2, u "hash"), (0, u "I"), (2, u "hashIsZero"), (0, u "Z"), (0, .methodref 10 28), (0, .nameAndType 5 29), (0, u "([CIILjava/lang/Void;)V"), (8, .fieldref 10 39), (0, .nameAndType 40 26), (0, u "COMPACT_STRINGS"), (1, .class_ 44), (1, u "java/lang/StringUTF16"), (0, u "compress"), (1, .methodref 42 48), (0, .nameAndType 49 50), (0, u "coderFromArrayLen"), (0, u "([BI)B"), (56, .class_ 109), (1, u "java/lang/StringLatin1"), (32, u "()Z"), (34, .methodref 42 178), (0, .nameAndType 45 179), (0, u "([CII)[B"), (154, u "()I"), (0, .methodref 10 336), (0, .nameAndType 17 337), (0, u "()B"), (25, u "([BI)C"), (27, u "(II)V"), (35, u "(I)C"), (64, .methodref 10 493), (0, .nameAndType 494 142), (0, u "isLatin1"), (0, .methodref 107 496), (0, .nameAndType 497 363), (0, u "charAt"), (3, u "checkIndex"), (5, u "length"), (67, .class_ 576), (0, u "java/lang/CharSequence"), (22, u "CASE_INSENSITIVE_ORDER"), (0, u "Ljava/util/Comparator;"), (409, u "([C)V"), (42, .fieldref 1054 1055), (0, .class_ 1056), (0, .nameAndType 1057 1058), (0, u "jdk/internal/util/Preconditions"), (0, u "SIOOBE_FORMATTER"), (0, u "Ljava/util/function/BiFunction;"), (0, .methodref 1054 1060), (0, .nameAndType 501 1061), (0, u "(IILjava/util/function/BiFunction;)I"), (39, u "serialPersistentFields"), (0, u "[Ljava/io/ObjectStreamField;"), (0, .class_ 1104), (0, u "java/lang/String$CaseInsensitiveComparator"), (1, .class_ 1107), (0, u "java/io/Serializable"), (0, .class_ 1109), (0, u "java/lang/Comparable"), (0, .class_ 1111), (0, u "java/lang/constant/Constable"), (0, .class_ 1113), (0, u "java/lang/constant/ConstantDesc"), (2, u "serialVersionUID"), (0, u "J"), (3, u "REPL"), (0, u "C"), (2, u "LATIN1"), (1, u "UTF16")] 323

def k9m0 : Method := { name := "<init>", desc := "()V", sig := { parameters := [], returnType := none }, accessFlags := 1, code := none }
def k9c1 : Code := { maxStack := 5, maxLocals := 2, code := jdk_42_method_3_code, exceptionTable := #[], attributes := #[] }
def k9m1 : Method := { name := "<init>", desc := "([C)V", sig := { parameters := [(.array .char)], returnType := none }, accessFlags := 1, code := some k9c1 }
def k9c2 : Code := { maxStack := 2, maxLocals := 1, code := jdk_42_method_54_code, exceptionTable := #[], attributes := #[] }
def k9m2 : Method := { name := "length", desc := "()I", sig := { parameters := [], returnType := some .int }, accessFlags := 1, code := some k9c2 }
def k9c3 : Code := { maxStack := 2, maxLocals := 2, code := jdk_42_method_56_code, exceptionTable := #[], attributes := #[] }
def k9m3 : Method := { name := "charAt", desc := "(I)C", sig := { parameters := [.int], returnType := some .char }, accessFlags := 1, code := some k9c3 }
def k9c4 : Code := { maxStack := 4, maxLocals := 6, code := jdk_42_method_149_code, exceptionTable := #[], attributes := #[] }
def k9m4 : Method := { name := "<init>", desc := "([CIILjava/lang/Void;)V", sig := { parameters := [(.array .char), .int, .int, (.object "java/lang/Void")], returnType := none }, accessFlags := 2, code := some k9c4 }
def k9c5 : Code := { maxStack := 1, maxLocals := 1, code := jdk_42_method_152_code, exceptionTable := #[], attributes := #[] }
def k9m5 : Method := { name := "coder", desc := "()B", sig := { parameters := [], returnType := some .byte }, accessFlags := 0, code := some k9c5 }
def k9c6 : Code := { maxStack := 1, maxLocals := 1, code := jdk_42_method_154_code, exceptionTable := #[], attributes := #[] }
def k9m6 : Method := { name := "isLatin1", desc := "()Z", sig := { parameters := [], returnType := some .boolean }, accessFlags := 0, code := some k9c6 }
def k9c7 : Code := { maxStack := 3, maxLocals := 2, code := jdk_42_method_155_code, exceptionTable := #[], attributes := #[] }
def k9m7 : Method := { name := "checkIndex", desc := "(II)V", sig := { parameters := [.int, .int], returnType := none }, accessFlags := 8, code := some k9c7 }
/-- java/lang/String -/
def k9 : Class := { plain "java/lang/String" (some 0) with
  accessFlags := 49
  interfaces := #[4, 5, 6, 7, 8]
  cf := some (fileOf pool9 10 #[.nestMembers #[1103]] #[{ accessFlags := 1, nameIndex := 5, descriptorIndex := 6, attributes := #[] }, { accessFlags := 1, nameIndex := 5, descriptorIndex := 1010, attributes := #[] }, { accessFlags := 1, nameIndex := 507, descriptorIndex := 334, attributes := #[] }, { accessFlags := 1, nameIndex := 497, descriptorIndex := 427, attributes := #[] }, { accessFlags := 2, nameIndex := 5, descriptorIndex := 29, attributes := #[] }, { accessFlags := 0, nameIndex := 17, descriptorIndex := 337, attributes := #[] }, { accessFlags := 0, nameIndex := 494, descriptorIndex := 142, attributes := #[] }, { accessFlags := 8, nameIndex := 501, descriptorIndex := 391, attributes := #[] }] 49 2 #[1106, 1108, 575, 1110, 1112] #[{ accessFlags := 18, nameIndex := 13, descriptorIndex := 14, attributes := #[] }, { accessFlags := 18, nameIndex := 17, descriptorIndex := 18, attributes := #[] }, { accessFlags := 2, nameIndex := 21, descriptorIndex := 22, attributes := #[] }, { accessFlags := 2, nameIndex := 25, descriptorIndex := 26, attributes := #[] }, { accessFlags := 26, nameIndex := 1116, descriptorIndex := 1117, attributes := #[] }, { accessFlags := 24, nameIndex := 40, descriptorIndex := 26, attributes := #[] }, { accessFlags := 26, nameIndex := 1101, descriptorIndex := 1102, attributes := #[] }, { accessFlags := 26, nameIndex := 1121, descriptorIndex := 1122, attributes := #[] }, { accessFlags := 25, nameIndex := 599, descriptorIndex := 600, attributes := #[] }, { accessFlags := 24, nameIndex := 1125, descriptorIndex := 18, attributes := #[] }, { accessFlags := 24, nameIndex := 1127, descriptorIndex := 18, attributes := #[] }])
  fields := #[{ name := "value", type := (.array .byte), accessFlags := 18, slot := 0, constantValue := 0 }, { name := "coder", type := .byte, accessFlags := 18, slot := 1, constantValue := 0 }, { name := "hash", type := .int, accessFlags := 2, slot := 2, constantValue := 0 }, { name := "hashIsZero", type := .boolean, accessFlags := 2, slot := 3, constantValue := 0 }, { name := "serialVersionUID", type := .long, accessFlags := 26, slot := 0, constantValue := 0 }, { name := "COMPACT_STRINGS", type := .boolean, accessFlags := 24, slot := 1, constantValue := 0 }, { name := "serialPersistentFields", type := (.array (.object "java/io/ObjectStreamField")), accessFlags := 26, slot := 2, constantValue := 0 }, { name := "REPL", type := .char, accessFlags := 26, slot := 3, constantValue := 0 }, { name := "CASE_INSENSITIVE_ORDER", type := (.object "java/util/Comparator"), accessFlags := 25, slot := 4, constantValue := 0 }, { name := "LATIN1", type := .byte, accessFlags := 24, slot := 5, constantValue := 0 }, { name := "UTF16", type := .byte, accessFlags := 24, slot := 6, constantValue := 0 }]
  methods := #[k9m0, k9m1, k9m2, k9m3, k9m4, k9m5, k9m6, k9m7]
  instanceTypes := #[(.array .byte), .byte, .int, .boolean]
  staticTypes := #[.long, .boolean, (.array (.object "java/io/ObjectStreamField")), .char, (.object "java/util/Comparator"), .byte, .byte]
  resolved := Array.replicate 1451 none
  statics := some 0 }

def pool10 : Array CpInfo := pool [(6, .class_ 8), (1, u "java/lang/Object"), (0, u "<init>"), (0, u "()V"), (1, .class_ 14), (1, u "java/lang/StringUTF16"), (31, u "$assertionsDisabled"), (0, u "Z"), (13, u "HI_BYTE_SHIFT"), (0, u "I"), (2, u "LO_BYTE_SHIFT"), (49, .methodref 12 116), (0, .nameAndType 117 118), (0, u "compress"), (0, u "([CI[BII)I"), (3, u "([CII)[B"), (138, u "coderFromArrayLen"), (0, u "([BI)B"), (106, .class_ 371), (1, u "java/lang/StringUTF16$LinesSpliterator"), (58, u "MAX_LENGTH"), (196, .class_ 628), (0, u "java/lang/StringUTF16$CodePointsSpliterator"), (0, .class_ 630), (0, u "java/lang/StringUTF16$CharsSpliterator")] 4

def k10m0 : Method := { name := "<init>", desc := "()V", sig := { parameters := [], returnType := none }, accessFlags := 0, code := none }
def k10c1 : Code := { maxStack := 2, maxLocals := 2, code := jdk_52_method_15_code, exceptionTable := #[], attributes := #[] }
def k10m1 : Method := { name := "coderFromArrayLen", desc := "([BI)B", sig := { parameters := [(.array .byte), .int], returnType := some .byte }, accessFlags := 8, code := some k10c1 }
def k10c2 : Code := { maxStack := 5, maxLocals := 6, code := jdk_52_method_16_code, exceptionTable := #[], attributes := #[] }
def k10m2 : Method := { name := "compress", desc := "([CII)[B", sig := { parameters := [(.array .char), .int, .int], returnType := some (.array .byte) }, accessFlags := 9, code := some k10c2 }
def k10c3 : Code := { maxStack := 3, maxLocals := 7, code := jdk_52_method_21_code, exceptionTable := #[], attributes := #[] }
def k10m3 : Method := { name := "compress", desc := "([CI[BII)I", sig := { parameters := [(.array .char), .int, (.array .byte), .int, .int], returnType := some .int }, accessFlags := 9, code := some k10c3 }
/-- java/lang/StringUTF16 -/
def k10 : Class := { plain "java/lang/StringUTF16" (some 0) with
  accessFlags := 48
  interfaces := #[]
  cf := some (fileOf pool10 12 #[.nestMembers #[627, 629, 369]] #[{ accessFlags := 0, nameIndex := 9, descriptorIndex := 10, attributes := #[] }, { accessFlags := 8, nameIndex := 261, descriptorIndex := 262, attributes := #[] }, { accessFlags := 9, nameIndex := 117, descriptorIndex := 122, attributes := #[] }, { accessFlags := 9, nameIndex := 117, descriptorIndex := 118, attributes := #[] }] 48 6 #[] #[{ accessFlags := 26, nameIndex := 61, descriptorIndex := 62, attributes := #[] }, { accessFlags := 26, nameIndex := 65, descriptorIndex := 62, attributes := #[] }, { accessFlags := 24, nameIndex := 430, descriptorIndex := 62, attributes := #[] }, { accessFlags := 4120, nameIndex := 46, descriptorIndex := 47, attributes := #[] }])
  fields := #[{ name := "HI_BYTE_SHIFT", type := .int, accessFlags := 26, slot := 0, constantValue := 0 }, { name := "LO_BYTE_SHIFT", type := .int, accessFlags := 26, slot := 1, constantValue := 0 }, { name := "MAX_LENGTH", type := .int, accessFlags := 24, slot := 2, constantValue := 0 }, { name := "$assertionsDisabled", type := .boolean, accessFlags := 4120, slot := 3, constantValue := 0 }]
  methods := #[k10m0, k10m1, k10m2, k10m3]
  instanceTypes := #[]
  staticTypes := #[.int, .int, .int, .boolean]
  resolved := Array.replicate 635 none
  statics := none }

def pool11 : Array CpInfo := pool [(2, .class_ 4), (1, u "java/lang/Object"), (0, u "<init>"), (0, u "()V"), (0, .methodref 8 9), (0, .class_ 10), (0, .nameAndType 11 12), (0, u "com/example/mynah/mynah/PlainDecimal"), (0, u "read"), (0, u "(Ljava/lang/String;J)J"), (0, .long 18446744073709551614), (1, .long 18446744073709551615), (1, .methodref 18 19), (0, .class_ 20), (0, .nameAndType 21 22), (0, u "java/lang/String"), (0, u "length"), (0, u "()I"), (0, .methodref 18 24), (0, .nameAndType 25 26), (0, u "charAt"), (0, u "(I)C"), (0, .methodref 28 29), (0, .class_ 30), (0, .nameAndType 31 32), (0, u "java/lang/Math"), (0, u "floorDiv"), (0, u "(JI)J"), (0, .long 10), (1, u "NOT_PLAIN"), (0, u "J"), (1, u "ABOVE"), (4, u "parseCapped")] 2

def k11m0 : Method := { name := "<init>", desc := "()V", sig := { parameters := [], returnType := none }, accessFlags := 2, code := none }
def k11c1 : Code := { maxStack := 4, maxLocals := 5, code := prog_21_method_3_code, exceptionTable := #[], attributes := #[] }
def k11m1 : Method := { name := "parseCapped", desc := "(Ljava/lang/String;J)J", sig := { parameters := [(.object "java/lang/String"), .long], returnType := some .long }, accessFlags := 9, code := some k11c1 }
def k11c2 : Code := { maxStack := 6, maxLocals := 10, code := prog_21_method_4_code, exceptionTable := #[], attributes := #[] }
def k11m2 : Method := { name := "read", desc := "(Ljava/lang/String;J)J", sig := { parameters := [(.object "java/lang/String"), .long], returnType := some .long }, accessFlags := 10, code := some k11c2 }
/-- com/example/mynah/mynah/PlainDecimal -/
def k11 : Class := { plain "com/example/mynah/mynah/PlainDecimal" (some 0) with
  accessFlags := 33
  interfaces := #[]
  cf := some (fileOf pool11 8 #[] #[{ accessFlags := 2, nameIndex := 5, descriptorIndex := 6, attributes := #[] }, { accessFlags := 9, nameIndex := 43, descriptorIndex := 12, attributes := #[] }, { accessFlags := 10, nameIndex := 11, descriptorIndex := 12, attributes := #[] }] 33 2 #[] #[{ accessFlags := 26, nameIndex := 35, descriptorIndex := 36, attributes := #[] }, { accessFlags := 26, nameIndex := 38, descriptorIndex := 36, attributes := #[] }])
  fields := #[{ name := "NOT_PLAIN", type := .long, accessFlags := 26, slot := 0, constantValue := 0 }, { name := "ABOVE", type := .long, accessFlags := 26, slot := 1, constantValue := 0 }]
  methods := #[k11m0, k11m1, k11m2]
  instanceTypes := #[]
  staticTypes := #[.long, .long]
  resolved := Array.replicate 46 none
  statics := none }

def pool12 : Array CpInfo := pool [(1, .class_ 2), (0, u "java/lang/String"), (1, .class_ 6), (1, u "java/lang/Object"), (0, u "<init>"), (0, u "()V"), (0, .methodref 1 10), (0, .nameAndType 11 12), (0, u "checkIndex"), (0, u "(II)V"), (1, .class_ 16), (1, u "java/lang/StringLatin1"), (36, u "([BI)C"), (67, u "$assertionsDisabled"), (0, u "Z"), (98, .class_ 223), (1, u "java/lang/StringLatin1$LinesSpliterator"), (28, u "charAt"), (137, .class_ 391), (0, u "java/lang/StringLatin1$CharsSpliterator")] 3

def k12m0 : Method := { name := "<init>", desc := "()V", sig := { parameters := [], returnType := none }, accessFlags := 0, code := none }
def k12c1 : Code := { maxStack := 2, maxLocals := 2, code := jdk_43_method_2_code, exceptionTable := #[], attributes := #[] }
def k12m1 : Method := { name := "charAt", desc := "([BI)C", sig := { parameters := [(.array .byte), .int], returnType := some .char }, accessFlags := 9, code := some k12c1 }
/-- java/lang/StringLatin1 -/
def k12 : Class := { plain "java/lang/StringLatin1" (some 0) with
  accessFlags := 48
  interfaces := #[]
  cf := some (fileOf pool12 14 #[.nestMembers #[390, 221]] #[{ accessFlags := 0, nameIndex := 7, descriptorIndex := 8, attributes := #[] }, { accessFlags := 9, nameIndex := 252, descriptorIndex := 53, attributes := #[] }] 48 4 #[] #[{ accessFlags := 4120, nameIndex := 121, descriptorIndex := 122, attributes := #[] }])
  fields := #[{ name := "$assertionsDisabled", type := .boolean, accessFlags := 4120, slot := 0, constantValue := 0 }]
  methods := #[k12m0, k12m1]
  instanceTypes := #[]
  staticTypes := #[.boolean]
  resolved := Array.replicate 395 none
  statics := none }

def pool13 : Array CpInfo := pool [(2, .class_ 4), (1, u "java/lang/Object"), (0, u "<init>"), (0, u "()V"), (17, .class_ 26), (1, u "jdk/internal/util/Preconditions"), (6, u "checkIndex"), (21, .class_ 56), (0, u "jdk/internal/util/Preconditions$4"), (57, .class_ 115), (0, u "jdk/internal/util/Preconditions$1"), (7, u "SIOOBE_FORMATTER"), (0, u "Ljava/util/function/BiFunction;"), (0, .class_ 126), (0, u "jdk/internal/util/Preconditions$2"), (3, u "AIOOBE_FORMATTER"), (0, .class_ 132), (0, u "jdk/internal/util/Preconditions$3"), (3, u "IOOBE_FORMATTER"), (41, u "(IILjava/util/function/BiFunction;)I")] 15

def k13m0 : Method := { name := "<init>", desc := "()V", sig := { parameters := [], returnType := none }, accessFlags := 1, code := none }
def k13c1 : Code := { maxStack := 3, maxLocals := 3, code := jdk_41_method_11_code, exceptionTable := #[], attributes := #[] }
def k13m1 : Method := { name := "checkIndex", desc := "(IILjava/util/function/BiFunction;)I", sig := { parameters := [.int, .int, (.object "java/util/function/BiFunction")], returnType := some .int }, accessFlags := 9, code := some k13c1 }
/-- jdk/internal/util/Preconditions -/
def k13 : Class := { plain "jdk/internal/util/Preconditions" (some 0) with
  accessFlags := 33
  interfaces := #[]
  cf := some (fileOf pool13 24 #[.nestMembers #[55, 131, 125, 114]] #[{ accessFlags := 1, nameIndex := 5, descriptorIndex := 6, attributes := #[] }, { accessFlags := 9, nameIndex := 33, descriptorIndex := 178, attributes := #[] }] 33 2 #[] #[{ accessFlags := 25, nameIndex := 123, descriptorIndex := 124, attributes := #[] }, { accessFlags := 25, nameIndex := 130, descriptorIndex := 124, attributes := #[] }, { accessFlags := 25, nameIndex := 136, descriptorIndex := 124, attributes := #[] }])
  fields := #[{ name := "SIOOBE_FORMATTER", type := (.object "java/util/function/BiFunction"), accessFlags := 25, slot := 0, constantValue := 0 }, { name := "AIOOBE_FORMATTER", type := (.object "java/util/function/BiFunction"), accessFlags := 25, slot := 1, constantValue := 0 }, { name := "IOOBE_FORMATTER", type := (.object "java/util/function/BiFunction"), accessFlags := 25, slot := 2, constantValue := 0 }]
  methods := #[k13m0, k13m1]
  instanceTypes := #[]
  staticTypes := #[(.object "java/util/function/BiFunction"), (.object "java/util/function/BiFunction"), (.object "java/util/function/BiFunction")]
  resolved := Array.replicate 194 none
  statics := some 1 }

def pool14 : Array CpInfo := pool [(1, .class_ 2), (0, u "java/lang/Math"), (1, .class_ 6), (1, u "java/lang/Object"), (0, u "<init>"), (0, u "()V"), (89, .class_ 100), (1, u "java/lang/Math$RandomNumberGeneratorHolder"), (20, u "(JJ)J"), (21, .methodref 1 144), (0, .nameAndType 145 121), (0, u "floorDiv"), (26, u "negativeZeroFloatBits"), (0, u "J"), (2, u "negativeZeroDoubleBits"), (68, u "$assertionsDisabled"), (0, u "Z"), (91, u "twoToTheDoubleScaleDown"), (0, u "D"), (4, u "twoToTheDoubleScaleUp"), (9, u "E"), (3, u "PI"), (2, u "TAU"), (2, u "DEGREES_TO_RADIANS"), (0, u "RADIANS_TO_DEGREES"), (29, u "(JI)J")] 64

def k14m0 : Method := { name := "<init>", desc := "()V", sig := { parameters := [], returnType := none }, accessFlags := 2, code := none }
def k14c1 : Code := { maxStack := 4, maxLocals := 3, code := jdk_29_method_48_code, exceptionTable := #[], attributes := #[] }
def k14m1 : Method := { name := "floorDiv", desc := "(JI)J", sig := { parameters := [.long, .int], returnType := some .long }, accessFlags := 9, code := some k14c1 }
def k14c2 : Code := { maxStack := 4, maxLocals := 6, code := jdk_29_method_49_code, exceptionTable := #[], attributes := #[] }
def k14m2 : Method := { name := "floorDiv", desc := "(JJ)J", sig := { parameters := [.long, .long], returnType := some .long }, accessFlags := 9, code := some k14c2 }
/-- java/lang/Math -/
def k14 : Class := { plain "java/lang/Math" (some 0) with
  accessFlags := 49
  interfaces := #[]
  cf := some (fileOf pool14 1 #[.nestMembers #[98]] #[{ accessFlags := 2, nameIndex := 7, descriptorIndex := 8, attributes := #[] }, { accessFlags := 9, nameIndex := 145, descriptorIndex := 395, attributes := #[] }, { accessFlags := 9, nameIndex := 145, descriptorIndex := 121, attributes := #[] }] 49 4 #[] #[{ accessFlags := 25, nameIndex := 354, descriptorIndex := 339, attributes := #[] }, { accessFlags := 25, nameIndex := 358, descriptorIndex := 339, attributes := #[] }, { accessFlags := 25, nameIndex := 361, descriptorIndex := 339, attributes := #[] }, { accessFlags := 26, nameIndex := 364, descriptorIndex := 339, attributes := #[] }, { accessFlags := 26, nameIndex := 365, descriptorIndex := 339, attributes := #[] }, { accessFlags := 26, nameIndex := 172, descriptorIndex := 173, attributes := #[] }, { accessFlags := 26, nameIndex := 176, descriptorIndex := 173, attributes := #[] }, { accessFlags := 8, nameIndex := 344, descriptorIndex := 339, attributes := #[] }, { accessFlags := 8, nameIndex := 338, descriptorIndex := 339, attributes := #[] }, { accessFlags := 4120, nameIndex := 245, descriptorIndex := 246, attributes := #[] }])
  fields := #[{ name := "E", type := .double, accessFlags := 25, slot := 0, constantValue := 0 }, { name := "PI", type := .double, accessFlags := 25, slot := 1, constantValue := 0 }, { name := "TAU", type := .double, accessFlags := 25, slot := 2, constantValue := 0 }, { name := "DEGREES_TO_RADIANS", type := .double, accessFlags := 26, slot := 3, constantValue := 0 }, { name := "RADIANS_TO_DEGREES", type := .double, accessFlags := 26, slot := 4, constantValue := 0 }, { name := "negativeZeroFloatBits", type := .long, accessFlags := 26, slot := 5, constantValue := 0 }, { name := "negativeZeroDoubleBits", type := .long, accessFlags := 26, slot := 6, constantValue := 0 }, { name := "twoToTheDoubleScaleUp", type := .double, accessFlags := 8, slot := 7, constantValue := 0 }, { name := "twoToTheDoubleScaleDown", type := .double, accessFlags := 8, slot := 8, constantValue := 0 }, { name := "$assertionsDisabled", type := .boolean, accessFlags := 4120, slot := 9, constantValue := 0 }]
  methods := #[k14m0, k14m1, k14m2]
  instanceTypes := #[]
  staticTypes := #[.double, .double, .double, .double, .double, .long, .long, .double, .double, .boolean]
  resolved := Array.replicate 460 none
  statics := none }

def pool15 : Array CpInfo := pool [(9, u "<init>"), (6, .class_ 18), (1, u "java/lang/Object"), (0, u "()V"), (1, .class_ 23), (1, u "jdk/internal/util/ArraysSupport"), (0, u "LOG2_ARRAY_LONG_INDEX_SCALE"), (0, u "I"), (2, u "U"), (0, u "Ljdk/internal/misc/Unsafe;"), (8, u "BIG_ENDIAN"), (0, u "Z"), (8, u "LOG2_BYTE_BIT_SIZE"), (4, u "LOG2_ARRAY_INT_INDEX_SCALE"), (54, u "JLA"), (0, u "Ljdk/internal/access/JavaLangAccess;"), (11, u "LOG2_ARRAY_BOOLEAN_INDEX_SCALE"), (9, u "LOG2_ARRAY_BYTE_INDEX_SCALE"), (5, u "LOG2_ARRAY_CHAR_INDEX_SCALE"), (5, u "LOG2_ARRAY_SHORT_INDEX_SCALE"), (18, u "LOG2_ARRAY_FLOAT_INDEX_SCALE"), (24, u "LOG2_ARRAY_DOUBLE_INDEX_SCALE"), (89, u "T_BOOLEAN"), (2, u "T_CHAR"), (1, u "T_FLOAT"), (1, u "T_DOUBLE"), (1, u "T_BYTE"), (1, u "T_SHORT"), (1, u "T_INT"), (1, u "T_LONG"), (1, u "SOFT_MAX_ARRAY_LENGTH")] 83

def k15m0 : Method := { name := "<init>", desc := "()V", sig := { parameters := [], returnType := none }, accessFlags := 2, code := none }
/-- jdk/internal/util/ArraysSupport -/
def k15 : Class := { plain "jdk/internal/util/ArraysSupport" (some 0) with
  accessFlags := 33
  interfaces := #[]
  cf := some (fileOf pool15 21 #[] #[{ accessFlags := 2, nameIndex := 9, descriptorIndex := 19, attributes := #[] }] 33 16 #[] #[{ accessFlags := 24, nameIndex := 28, descriptorIndex := 29, attributes := #[] }, { accessFlags := 26, nameIndex := 38, descriptorIndex := 39, attributes := #[] }, { accessFlags := 25, nameIndex := 121, descriptorIndex := 25, attributes := #[] }, { accessFlags := 25, nameIndex := 131, descriptorIndex := 25, attributes := #[] }, { accessFlags := 25, nameIndex := 137, descriptorIndex := 25, attributes := #[] }, { accessFlags := 25, nameIndex := 143, descriptorIndex := 25, attributes := #[] }, { accessFlags := 25, nameIndex := 53, descriptorIndex := 25, attributes := #[] }, { accessFlags := 25, nameIndex := 24, descriptorIndex := 25, attributes := #[] }, { accessFlags := 25, nameIndex := 162, descriptorIndex := 25, attributes := #[] }, { accessFlags := 25, nameIndex := 187, descriptorIndex := 25, attributes := #[] }, { accessFlags := 26, nameIndex := 48, descriptorIndex := 25, attributes := #[] }, { accessFlags := 25, nameIndex := 277, descriptorIndex := 25, attributes := #[] }, { accessFlags := 25, nameIndex := 280, descriptorIndex := 25, attributes := #[] }, { accessFlags := 25, nameIndex := 282, descriptorIndex := 25, attributes := #[] }, { accessFlags := 25, nameIndex := 284, descriptorIndex := 25, attributes := #[] }, { accessFlags := 25, nameIndex := 286, descriptorIndex := 25, attributes := #[] }, { accessFlags := 25, nameIndex := 288, descriptorIndex := 25, attributes := #[] }, { accessFlags := 25, nameIndex := 290, descriptorIndex := 25, attributes := #[] }, { accessFlags := 25, nameIndex := 292, descriptorIndex := 25, attributes := #[] }, { accessFlags := 26, nameIndex := 108, descriptorIndex := 109, attributes := #[] }, { accessFlags := 25, nameIndex := 294, descriptorIndex := 25, attributes := #[] }])
  fields := #[{ name := "U", type := (.object "jdk/internal/misc/Unsafe"), accessFlags := 24, slot := 0, constantValue := 0 }, { name := "BIG_ENDIAN", type := .boolean, accessFlags := 26, slot := 1, constantValue := 0 }, { name := "LOG2_ARRAY_BOOLEAN_INDEX_SCALE", type := .int, accessFlags := 25, slot := 2, constantValue := 0 }, { name := "LOG2_ARRAY_BYTE_INDEX_SCALE", type := .int, accessFlags := 25, slot := 3, constantValue := 0 }, { name := "LOG2_ARRAY_CHAR_INDEX_SCALE", type := .int, accessFlags := 25, slot := 4, constantValue := 0 }, { name := "LOG2_ARRAY_SHORT_INDEX_SCALE", type := .int, accessFlags := 25, slot := 5, constantValue := 0 }, { name := "LOG2_ARRAY_INT_INDEX_SCALE", type := .int, accessFlags := 25, slot := 6, constantValue := 0 }, { name := "LOG2_ARRAY_LONG_INDEX_SCALE", type := .int, accessFlags := 25, slot := 7, constantValue := 0 }, { name := "LOG2_ARRAY_FLOAT_INDEX_SCALE", type := .int, accessFlags := 25, slot := 8, constantValue := 0 }, { name := "LOG2_ARRAY_DOUBLE_INDEX_SCALE", type := .int, accessFlags := 25, slot := 9, constantValue := 0 }, { name := "LOG2_BYTE_BIT_SIZE", type := .int, accessFlags := 26, slot := 10, constantValue := 0 }, { name := "T_BOOLEAN", type := .int, accessFlags := 25, slot := 11, constantValue := 0 }, { name := "T_CHAR", type := .int, accessFlags := 25, slot := 12, constantValue := 0 }, { name := "T_FLOAT", type := .int, accessFlags := 25, slot := 13, constantValue := 0 }, { name := "T_DOUBLE", type := .int, accessFlags := 25, slot := 14, constantValue := 0 }, { name := "T_BYTE", type := .int, accessFlags := 25, slot := 15, constantValue := 0 }, { name := "T_SHORT", type := .int, accessFlags := 25, slot := 16, constantValue := 0 }, { name := "T_INT", type := .int, accessFlags := 25, slot := 17, constantValue := 0 }, { name := "T_LONG", type := .int, accessFlags := 25, slot := 18, constantValue := 0 }, { name := "JLA", type := (.object "jdk/internal/access/JavaLangAccess"), accessFlags := 26, slot := 19, constantValue := 0 }, { name := "SOFT_MAX_ARRAY_LENGTH", type := .int, accessFlags := 25, slot := 20, constantValue := 0 }]
  methods := #[k15m0]
  instanceTypes := #[]
  staticTypes := #[(.object "jdk/internal/misc/Unsafe"), .boolean, .int, .int, .int, .int, .int, .int, .int, .int, .int, .int, .int, .int, .int, .int, .int, .int, .int, (.object "jdk/internal/access/JavaLangAccess"), .int]
  resolved := Array.replicate 378 none
  statics := none }

def pool16 : Array CpInfo := pool [(1, u "java/lang/Cloneable"), (0, .class_ 1), (0, u "java/lang/Object"), (0, .class_ 3)] 3

/-- java/lang/Cloneable -/
def k16 : Class := { plain "java/lang/Cloneable" (some 0) with
  accessFlags := 1537
  interfaces := #[]
  cf := some (fileOf pool16 2 #[] #[] 1537 4 #[] #[])
  fields := #[]
  methods := #[]
  instanceTypes := #[]
  staticTypes := #[]
  resolved := Array.replicate 8 none
  statics := none }

/-- the primitive byte -/
def k17 : Class := { plain "byte" none with kind := .primitive 'B', accessFlags := 0x411 }
/-- [B -/
def k18 : Class := { plain "[B" (some 0) with kind := .array 17 .byte, interfaces := #[16, 4], accessFlags := 1041 }

/-- the primitive char -/
def k19 : Class := { plain "char" none with kind := .primitive 'C', accessFlags := 0x411 }
/-- [C -/
def k20 : Class := { plain "[C" (some 0) with kind := .array 19 .char, interfaces := #[16, 4], accessFlags := 1041 }

/-- the primitive int -/
def k21 : Class := { plain "int" none with kind := .primitive 'I', accessFlags := 0x411 }
/-- [I -/
def k22 : Class := { plain "[I" (some 0) with kind := .array 21 .int, interfaces := #[16, 4], accessFlags := 1041 }

def heap : Heap := #[{ cls := 9, slots := #[.long 0, .int 1, .null, .int 0, .null, .int 0, .int 0], vm := .statics 9 },
  { cls := 13, slots := #[.null, .null, .null], vm := .statics 13 }]
def classes : Array Class := #[k0, k1, k2, k3, k4, k5, k6, k7, k8, k9, k10, k11, k12, k13, k14, k15, k16, k17, k18, k19, k20, k21, k22]
def interned : List (Array UInt16 × Addr) := []
def slotsUsed : Nat := 10
def theMethod : MethodId := ⟨1, 1⟩
def args0 : Array Value := #[.int 2, .int 3, .long 4, .long 5]
def aboutOver (below : List Frame) : State where
  vm := { classes := classes, interned := interned.toArray }
  heap := heap
  slotsUsed := slotsUsed
  threads := #[{ frames := .invoking theMethod args0 :: below }]
def below0 : List Frame := [.native { method := ⟨0, 0⟩, args := #[] }]
def about1 : State := aboutOver below0
def p0 : Program := .bare "" "" ""
def e0 : Env := launch0.env 0 0 0
theorem w_frames : about1.frames = Frame.invoking theMethod args0 :: below0 := rfl
set_option maxRecDepth 65536 in
theorem w_args : argsFit about1.vm theMethod args0 = true := by decide +kernel
set_option maxRecDepth 65536 in
theorem w_heap : heapFits about1 = true := by decide +kernel
set_option maxRecDepth 65536 in
theorem w_runnable : about1.curStatus? = some .runnable := by decide +kernel
set_option maxRecDepth 65536 in
theorem w_alone : about1.alone = true := by decide +kernel
set_option maxRecDepth 65536 in
theorem w_named : about1.methodNamed? x = some theMethod := by decide +kernel
set_option maxRecDepth 65536 in
theorem w_hears : about1.hears theMethod below0 = true := by decide +kernel
set_option maxRecDepth 65536 in
theorem w_ripe : about1.ripe theMethod args0 below0 = true := by decide +kernel
theorem w_running : about1.status = .running := rfl
set_option maxRecDepth 65536 in
theorem w_room : about1.hasRoom e0.platform room_1 = true :=
  launch0.hasRoom_least _ room_1 (by decide +kernel) (by decide +kernel) (by decide +kernel) (by decide +kernel) (by decide +kernel) (by decide +kernel)
theorem allAtoms_all (ts : List Jvm.Cond) (a : Array Jvm.Value) (st : Jvm.State) : (allAtoms ts).before a st = ts.all (fun c => c.before a st) := by
  induction ts with
  | nil => rfl
  | cons c t ih =>
    show (Jvm.Cond.and c (allAtoms t)).before a st = _
    rw [Jvm.Cond.before_and, ih, List.all_cons]
def words1 : List Jvm.Cond := Jvm.Cond.code x code maxLocals ret :: tables_1
/-- a 'code' word, met by the world's own term for the bytes: nothing is compared byte by byte -/
theorem code_word {y : MethodName} {bytes : ByteArray} {mx : Nat} {rt : Option FieldType} {a : Array Value} {s : State} {m : MethodId} {meth : Method} {c : Code} (h1 : s.methodNamed? y = some m) (h2 : s.vm.method? m = some meth) (h3 : meth.code = some c) (h4 : c.code = bytes)
    (h5 : (c.maxLocals == mx && c.exceptionTable.isEmpty && decide (c.maxStack ≤ mostOperands) && decide (meth.sig.returnType = rt) && !meth.locks && decide (parseMethodDescriptor y.desc = some meth.sig)) = true) : (Jvm.Cond.code y bytes mx rt).before a s = true := by
  simp only [Bool.and_eq_true, beq_iff_eq, Bool.not_eq_true', decide_eq_true_eq] at h5
  obtain ⟨⟨⟨⟨⟨g1, g2⟩, g3⟩, g4⟩, g5⟩, g6⟩ := h5
  simp [Cond.before, Cond.holds, Cond.value, h1, h2, h3, h4, g1, g2, g3, g4, g5, g6]
def isCode : Jvm.Cond → Bool
  | .code _ _ _ _ => true
  | _ => false
theorem all_split {L : List Jvm.Cond} {P : Jvm.Cond → Bool} (h1 : L.all (fun c => isCode c || P c) = true) (h2 : ∀ c ∈ L.filter isCode, P c = true) : L.all P = true := by
  refine List.all_eq_true.mpr fun c hc => ?_
  have h := List.all_eq_true.mp h1 c hc
  rcases Bool.eq_false_or_eq_true (isCode c) with hi | hi
  · exact h2 c (List.mem_filter.mpr ⟨hc, hi⟩)
  · simpa [hi] using h
set_option maxRecDepth 65536 in
theorem w_c0 : (Jvm.Cond.code x code maxLocals ret).before args0 about1 = true := code_word (m := ⟨1, 1⟩) (meth := k1m1) (c := k1c1) (by decide +kernel) rfl rfl rfl (by decide +kernel)
set_option maxRecDepth 65536 in
theorem w_c1 : (Jvm.Cond.code ({ cls := "com/example/mynah/mynah/FeedReader", name := "pageSize", desc := "(Ljava/lang/String;)I" } : Jvm.MethodName) prog_11_method_4_code (4 : Nat) (Option.some Jvm.ClassFile.FieldType.int)).before args0 about1 = true := code_word (m := ⟨3, 0⟩) (meth := k3m0) (c := k3c0) (by decide +kernel) rfl rfl rfl (by decide +kernel)
set_option maxRecDepth 65536 in
theorem w_c2 : (Jvm.Cond.code ({ cls := "com/example/mynah/mynah/FeedReaderPageSizePinLaw", name := "digit", desc := "(JI)C" } : Jvm.MethodName) method_3_code (3 : Nat) (Option.some Jvm.ClassFile.FieldType.char)).before args0 about1 = true := code_word (m := ⟨1, 2⟩) (meth := k1m2) (c := k1c2) (by decide +kernel) rfl rfl rfl (by decide +kernel)
set_option maxRecDepth 65536 in
theorem w_c3 : (Jvm.Cond.code ({ cls := "com/example/mynah/mynah/FeedReaderPageSizePinLaw", name := "make", desc := "(I)[C" } : Jvm.MethodName) method_4_code (1 : Nat) (Option.some (Jvm.ClassFile.FieldType.array Jvm.ClassFile.FieldType.char))).before args0 about1 = true := code_word (m := ⟨1, 3⟩) (meth := k1m3) (c := k1c3) (by decide +kernel) rfl rfl rfl (by decide +kernel)
set_option maxRecDepth 65536 in
theorem w_c4 : (Jvm.Cond.code ({ cls := "java/lang/String", name := "<init>", desc := "([C)V" } : Jvm.MethodName) jdk_42_method_3_code (2 : Nat) (Option.none : Option Jvm.ClassFile.FieldType)).before args0 about1 = true := code_word (m := ⟨9, 1⟩) (meth := k9m1) (c := k9c1) (by decide +kernel) rfl rfl rfl (by decide +kernel)
set_option maxRecDepth 65536 in
theorem w_c5 : (Jvm.Cond.code ({ cls := "java/lang/String", name := "<init>", desc := "([CIILjava/lang/Void;)V" } : Jvm.MethodName) jdk_42_method_149_code (6 : Nat) (Option.none : Option Jvm.ClassFile.FieldType)).before args0 about1 = true := code_word (m := ⟨9, 4⟩) (meth := k9m4) (c := k9c4) (by decide +kernel) rfl rfl rfl (by decide +kernel)
set_option maxRecDepth 65536 in
theorem w_c6 : (Jvm.Cond.code ({ cls := "java/lang/Object", name := "<init>", desc := "()V" } : Jvm.MethodName) object_method_1_code (1 : Nat) (Option.none : Option Jvm.ClassFile.FieldType)).before args0 about1 = true := code_word (m := ⟨0, 0⟩) (meth := k0m0) (c := k0c0) (by decide +kernel) rfl rfl rfl (by decide +kernel)
set_option maxRecDepth 65536 in
theorem w_c7 : (Jvm.Cond.code ({ cls := "java/lang/StringUTF16", name := "compress", desc := "([CII)[B" } : Jvm.MethodName) jdk_52_method_16_code (6 : Nat) (Option.some (Jvm.ClassFile.FieldType.array Jvm.ClassFile.FieldType.byte))).before args0 about1 = true := code_word (m := ⟨10, 2⟩) (meth := k10m2) (c := k10c2) (by decide +kernel) rfl rfl rfl (by decide +kernel)
set_option maxRecDepth 65536 in
theorem w_c8 : (Jvm.Cond.code ({ cls := "java/lang/StringUTF16", name := "compress", desc := "([CI[BII)I" } : Jvm.MethodName) jdk_52_method_21_code (7 : Nat) (Option.some Jvm.ClassFile.FieldType.int)).before args0 about1 = true := code_word (m := ⟨10, 3⟩) (meth := k10m3) (c := k10c3) (by decide +kernel) rfl rfl rfl (by decide +kernel)
set_option maxRecDepth 65536 in
theorem w_c9 : (Jvm.Cond.code ({ cls := "java/lang/StringUTF16", name := "coderFromArrayLen", desc := "([BI)B" } : Jvm.MethodName) jdk_52_method_15_code (2 : Nat) (Option.some Jvm.ClassFile.FieldType.byte)).before args0 about1 = true := code_word (m := ⟨10, 1⟩) (meth := k10m1) (c := k10c1) (by decide +kernel) rfl rfl rfl (by decide +kernel)
set_option maxRecDepth 65536 in
theorem w_c10 : (Jvm.Cond.code ({ cls := "com/example/mynah/mynah/PlainDecimal", name := "parseCapped", desc := "(Ljava/lang/String;J)J" } : Jvm.MethodName) prog_21_method_3_code (5 : Nat) (Option.some Jvm.ClassFile.FieldType.long)).before args0 about1 = true := code_word (m := ⟨11, 1⟩) (meth := k11m1) (c := k11c1) (by decide +kernel) rfl rfl rfl (by decide +kernel)
set_option maxRecDepth 65536 in
theorem w_c11 : (Jvm.Cond.code ({ cls := "com/example/mynah/mynah/PlainDecimal", name := "read", desc := "(Ljava/lang/String;J)J" } : Jvm.MethodName) prog_21_method_4_code (10 : Nat) (Option.some Jvm.ClassFile.FieldType.long)).before args0 about1 = true := code_word (m := ⟨11, 2⟩) (meth := k11m2) (c := k11c2) (by decide +kernel) rfl rfl rfl (by decide +kernel)
set_option maxRecDepth 65536 in
theorem w_c12 : (Jvm.Cond.code ({ cls := "java/lang/String", name := "length", desc := "()I" } : Jvm.MethodName) jdk_42_method_54_code (1 : Nat) (Option.some Jvm.ClassFile.FieldType.int)).before args0 about1 = true := code_word (m := ⟨9, 2⟩) (meth := k9m2) (c := k9c2) (by decide +kernel) rfl rfl rfl (by decide +kernel)
set_option maxRecDepth 65536 in
theorem w_c13 : (Jvm.Cond.code ({ cls := "java/lang/String", name := "coder", desc := "()B" } : Jvm.MethodName) jdk_42_method_152_code (1 : Nat) (Option.some Jvm.ClassFile.FieldType.byte)).before args0 about1 = true := code_word (m := ⟨9, 5⟩) (meth := k9m5) (c := k9c5) (by decide +kernel) rfl rfl rfl (by decide +kernel)
set_option maxRecDepth 65536 in
theorem w_c14 : (Jvm.Cond.code ({ cls := "java/lang/String", name := "charAt", desc := "(I)C" } : Jvm.MethodName) jdk_42_method_56_code (2 : Nat) (Option.some Jvm.ClassFile.FieldType.char)).before args0 about1 = true := code_word (m := ⟨9, 3⟩) (meth := k9m3) (c := k9c3) (by decide +kernel) rfl rfl rfl (by decide +kernel)
set_option maxRecDepth 65536 in
theorem w_c15 : (Jvm.Cond.code ({ cls := "java/lang/String", name := "isLatin1", desc := "()Z" } : Jvm.MethodName) jdk_42_method_154_code (1 : Nat) (Option.some Jvm.ClassFile.FieldType.boolean)).before args0 about1 = true := code_word (m := ⟨9, 6⟩) (meth := k9m6) (c := k9c6) (by decide +kernel) rfl rfl rfl (by decide +kernel)
set_option maxRecDepth 65536 in
theorem w_c16 : (Jvm.Cond.code ({ cls := "java/lang/StringLatin1", name := "charAt", desc := "([BI)C" } : Jvm.MethodName) jdk_43_method_2_code (2 : Nat) (Option.some Jvm.ClassFile.FieldType.char)).before args0 about1 = true := code_word (m := ⟨12, 1⟩) (meth := k12m1) (c := k12c1) (by decide +kernel) rfl rfl rfl (by decide +kernel)
set_option maxRecDepth 65536 in
theorem w_c17 : (Jvm.Cond.code ({ cls := "java/lang/String", name := "checkIndex", desc := "(II)V" } : Jvm.MethodName) jdk_42_method_155_code (2 : Nat) (Option.none : Option Jvm.ClassFile.FieldType)).before args0 about1 = true := code_word (m := ⟨9, 7⟩) (meth := k9m7) (c := k9c7) (by decide +kernel) rfl rfl rfl (by decide +kernel)
set_option maxRecDepth 65536 in
theorem w_c18 : (Jvm.Cond.code ({ cls := "jdk/internal/util/Preconditions", name := "checkIndex", desc := "(IILjava/util/function/BiFunction;)I" } : Jvm.MethodName) jdk_41_method_11_code (3 : Nat) (Option.some Jvm.ClassFile.FieldType.int)).before args0 about1 = true := code_word (m := ⟨13, 1⟩) (meth := k13m1) (c := k13c1) (by decide +kernel) rfl rfl rfl (by decide +kernel)
set_option maxRecDepth 65536 in
theorem w_c19 : (Jvm.Cond.code ({ cls := "java/lang/Math", name := "floorDiv", desc := "(JI)J" } : Jvm.MethodName) jdk_29_method_48_code (3 : Nat) (Option.some Jvm.ClassFile.FieldType.long)).before args0 about1 = true := code_word (m := ⟨14, 1⟩) (meth := k14m1) (c := k14c1) (by decide +kernel) rfl rfl rfl (by decide +kernel)
set_option maxRecDepth 65536 in
theorem w_c20 : (Jvm.Cond.code ({ cls := "java/lang/Math", name := "floorDiv", desc := "(JJ)J" } : Jvm.MethodName) jdk_29_method_49_code (6 : Nat) (Option.some Jvm.ClassFile.FieldType.long)).before args0 about1 = true := code_word (m := ⟨14, 2⟩) (meth := k14m2) (c := k14c2) (by decide +kernel) rfl rfl rfl (by decide +kernel)
def codes1 : List Jvm.Cond := [Jvm.Cond.code x code maxLocals ret, Jvm.Cond.code ({ cls := "com/example/mynah/mynah/FeedReader", name := "pageSize", desc := "(Ljava/lang/String;)I" } : Jvm.MethodName) prog_11_method_4_code (4 : Nat) (Option.some Jvm.ClassFile.FieldType.int), Jvm.Cond.code ({ cls := "com/example/mynah/mynah/FeedReaderPageSizePinLaw", name := "digit", desc := "(JI)C" } : Jvm.MethodName) method_3_code (3 : Nat) (Option.some Jvm.ClassFile.FieldType.char), Jvm.Cond.code ({ cls := "com/example/mynah/mynah/FeedReaderPageSizePinLaw", name := "make", desc := "(I)[C" } : Jvm.MethodName) method_4_code (1 : Nat) (Option.some (Jvm.ClassFile.FieldType.array Jvm.ClassFile.FieldType.char)), Jvm.Cond.code ({ cls := "java/lang/String", name := "<init>", desc := "([C)V" } : Jvm.MethodName) jdk_42_method_3_code (2 : Nat) (Option.none : Option Jvm.ClassFile.FieldType), Jvm.Cond.code ({ cls := "java/lang/String", name := "<init>", desc := "([CIILjava/lang/Void;)V" } : Jvm.MethodName) jdk_42_method_149_code (6 : Nat) (Option.none : Option Jvm.ClassFile.FieldType), Jvm.Cond.code ({ cls := "java/lang/Object", name := "<init>", desc := "()V" } : Jvm.MethodName) object_method_1_code (1 : Nat) (Option.none : Option Jvm.ClassFile.FieldType), Jvm.Cond.code ({ cls := "java/lang/StringUTF16", name := "compress", desc := "([CII)[B" } : Jvm.MethodName) jdk_52_method_16_code (6 : Nat) (Option.some (Jvm.ClassFile.FieldType.array Jvm.ClassFile.FieldType.byte)), Jvm.Cond.code ({ cls := "java/lang/StringUTF16", name := "compress", desc := "([CI[BII)I" } : Jvm.MethodName) jdk_52_method_21_code (7 : Nat) (Option.some Jvm.ClassFile.FieldType.int), Jvm.Cond.code ({ cls := "java/lang/StringUTF16", name := "coderFromArrayLen", desc := "([BI)B" } : Jvm.MethodName) jdk_52_method_15_code (2 : Nat) (Option.some Jvm.ClassFile.FieldType.byte), Jvm.Cond.code ({ cls := "com/example/mynah/mynah/PlainDecimal", name := "parseCapped", desc := "(Ljava/lang/String;J)J" } : Jvm.MethodName) prog_21_method_3_code (5 : Nat) (Option.some Jvm.ClassFile.FieldType.long), Jvm.Cond.code ({ cls := "com/example/mynah/mynah/PlainDecimal", name := "read", desc := "(Ljava/lang/String;J)J" } : Jvm.MethodName) prog_21_method_4_code (10 : Nat) (Option.some Jvm.ClassFile.FieldType.long), Jvm.Cond.code ({ cls := "java/lang/String", name := "length", desc := "()I" } : Jvm.MethodName) jdk_42_method_54_code (1 : Nat) (Option.some Jvm.ClassFile.FieldType.int), Jvm.Cond.code ({ cls := "java/lang/String", name := "coder", desc := "()B" } : Jvm.MethodName) jdk_42_method_152_code (1 : Nat) (Option.some Jvm.ClassFile.FieldType.byte), Jvm.Cond.code ({ cls := "java/lang/String", name := "charAt", desc := "(I)C" } : Jvm.MethodName) jdk_42_method_56_code (2 : Nat) (Option.some Jvm.ClassFile.FieldType.char), Jvm.Cond.code ({ cls := "java/lang/String", name := "isLatin1", desc := "()Z" } : Jvm.MethodName) jdk_42_method_154_code (1 : Nat) (Option.some Jvm.ClassFile.FieldType.boolean), Jvm.Cond.code ({ cls := "java/lang/StringLatin1", name := "charAt", desc := "([BI)C" } : Jvm.MethodName) jdk_43_method_2_code (2 : Nat) (Option.some Jvm.ClassFile.FieldType.char), Jvm.Cond.code ({ cls := "java/lang/String", name := "checkIndex", desc := "(II)V" } : Jvm.MethodName) jdk_42_method_155_code (2 : Nat) (Option.none : Option Jvm.ClassFile.FieldType), Jvm.Cond.code ({ cls := "jdk/internal/util/Preconditions", name := "checkIndex", desc := "(IILjava/util/function/BiFunction;)I" } : Jvm.MethodName) jdk_41_method_11_code (3 : Nat) (Option.some Jvm.ClassFile.FieldType.int), Jvm.Cond.code ({ cls := "java/lang/Math", name := "floorDiv", desc := "(JI)J" } : Jvm.MethodName) jdk_29_method_48_code (3 : Nat) (Option.some Jvm.ClassFile.FieldType.long), Jvm.Cond.code ({ cls := "java/lang/Math", name := "floorDiv", desc := "(JJ)J" } : Jvm.MethodName) jdk_29_method_49_code (6 : Nat) (Option.some Jvm.ClassFile.FieldType.long)]
set_option maxRecDepth 65536 in
theorem codes_eq : words1.filter isCode = codes1 := rfl
theorem w_codes : ∀ c ∈ words1.filter isCode, c.before args0 about1 = true := by
  rw [codes_eq]
  intro c hc
  simp only [codes1, List.mem_cons, List.not_mem_nil, or_false] at hc
  rcases hc with rfl | rfl | rfl | rfl | rfl | rfl | rfl | rfl | rfl | rfl | rfl | rfl | rfl | rfl | rfl | rfl | rfl | rfl | rfl | rfl | rfl
  · exact w_c0
  · exact w_c1
  · exact w_c2
  · exact w_c3
  · exact w_c4
  · exact w_c5
  · exact w_c6
  · exact w_c7
  · exact w_c8
  · exact w_c9
  · exact w_c10
  · exact w_c11
  · exact w_c12
  · exact w_c13
  · exact w_c14
  · exact w_c15
  · exact w_c16
  · exact w_c17
  · exact w_c18
  · exact w_c19
  · exact w_c20
set_option maxRecDepth 65536 in
theorem w_t1 : (words1.take 24).all (fun c => isCode c || c.before args0 about1) = true := by decide +kernel
set_option maxRecDepth 65536 in
theorem w_t2 : ((words1.drop 24).take 24).all (fun c => isCode c || c.before args0 about1) = true := by decide +kernel
set_option maxRecDepth 65536 in
theorem w_t3 : (((words1.drop 24).drop 24).take 24).all (fun c => isCode c || c.before args0 about1) = true := by decide +kernel
set_option maxRecDepth 65536 in
theorem w_t4 : (((words1.drop 24).drop 24).drop 24).all (fun c => isCode c || c.before args0 about1) = true := by decide +kernel
theorem w_tables : (allAtoms (Jvm.Cond.code x code maxLocals ret :: tables_1)).before args0 about1 = true := by
  rw [allAtoms_all]
  show words1.all (fun c => c.before args0 about1) = true
  refine all_split ?_ w_codes
  rw [← List.take_append_drop 24 words1, List.all_append, w_t1, ← List.take_append_drop 24 (words1.drop 24), List.all_append, w_t2, ← List.take_append_drop 24 ((words1.drop 24).drop 24), List.all_append, w_t3, w_t4]
  rfl
set_option maxRecDepth 65536 in
theorem w_rest : rest_1_c.before args0 about1 = true := by decide +kernel
set_option maxRecDepth 65536 in
theorem w_case : (Jvm.Cond.and given_1 narrow_1).before args0 about1 = true := by decide +kernel
theorem w_applies : (headSpec (Jvm.Cond.code x code maxLocals ret :: tables_1) room_1).applies x e0.platform about1 = true :=
  (Spec.applies_iff w_frames).mpr ⟨w_running, w_runnable, w_alone, w_named, w_hears, w_ripe, w_room, w_tables⟩
theorem atStart : AtStart classFile x code maxLocals ret World_1 tables_1 room_1 Calls_1 rest_1 Pre_1 launch0 p0 e0 about1 theMethod args0 below0 :=
  ⟨lists_1, trivial, launch0.admits_env _ _ _, launch0.least_env, fairChoices_fair.cas, fairChoices_fair.clock, w_frames, w_args, w_heap, w_applies, trivial, w_rest, w_case⟩
end start1
theorem witness_1 : WitnessClaimed_1 := ⟨start1.p0, start1.e0, start1.about1, start1.theMethod, start1.args0, start1.below0, start1.atStart⟩
end Jvm.Pilot.@@N@@
