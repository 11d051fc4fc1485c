import JvmDerived
import JvmDerived.Pilot.@@N@@Statement
import JvmDerived.Pilot.@@N@@Code
set_option linter.unusedVariables false
set_option linter.unusedSimpArgs false
/- laws to paste: Road.backV, Road.lenW, Road.codOf (cut by pick.py; bodies as the Statement names them) -/
namespace Jvm.Pilot.@@N@@
namespace StrChars
open Jvm Sem ClassFile Op Lib Jvm.Stand Jvm.Free.XT Jvm.Free.ALB Jvm.Free.JM Jvm.Free
open Jvm.Lib.Cold (StaticIs)
/-- a char array whose places are chars -/
def Ch (a : Addr) (A : Cell) (U : State) : Prop := Arr .char a A U ∧ Typed .char A
theorem Ch.mv {a : Addr} {A : Cell} {U U' : State} (h : Ch a A U) (hal : U.vm.Alike U'.vm) (hh : U'.heap = U.heap) : Ch a A U' := ⟨h.1.mv hal hh, h.2⟩
theorem Ch.keep {a : Addr} {A : Cell} {U U' : State} (h : Ch a A U) (hal : U.vm.Alike U'.vm) (hk : U'.heap[a]? = some A) : Ch a A U' := ⟨h.1.keep hal hk, h.2⟩
/-- what place i of a char[]'s cell holds -/
def cv (A : Cell) (i : Nat) : Int32 := match A.slots[i]? with | some (.int x) => x | _ => 0
theorem Ch.get {a : Addr} {A : Cell} {U : State} (h : Ch a A U) {i : Nat} (hi : i < A.slots.size) : A.slots[i]? = some (.int (cv A i)) := by
  have e := Array.getElem?_eq_getElem hi
  have f := h.2 i _ e
  unfold cv; rw [e]
  generalize A.slots[i] = v at f
  cases v <;> simp [fits] at f ⊢
/-- the byte that i2b leaves of a char -/
def lo8 (x : Int32) : Int32 := x.toInt8.toInt32
theorem fits_lo8 (y : Int32) : fits .byte (.int (lo8 y)) = true := by
  have h1 := y.toInt8.le_toInt
  have h2 := y.toInt8.toInt_lt
  simp only [lo8, fits, Bool.and_eq_true, decide_eq_true_eq, Int32.le_iff_toInt_le, Int8.toInt_toInt32, show (-128 : Int32).toInt = -128 from by decide, show (127 : Int32).toInt = 127 from by decide]
  omega
/-- A' is A but that each place j of lo .. hi - 1 holds f j -/
def Laid (A A' : Cell) (lo hi : Nat) (f : Nat → Value) : Prop := A'.cls = A.cls ∧ A'.vm = A.vm ∧ A'.slots.size = A.slots.size ∧ ∀ i, A'.slots[i]? = if lo ≤ i ∧ i < hi then some (f i) else A.slots[i]?
theorem Laid.zero (A : Cell) (lo : Nat) (f : Nat → Value) : Laid A A lo (lo + 0) f := ⟨rfl, rfl, rfl, fun i => by rw [if_neg (by omega)]⟩
theorem Laid.step {A Ak : Cell} {lo k : Nat} {f : Nat → Value} {v : Value} (h : Laid A Ak lo k f) (hlo : lo ≤ k) (hk : k < Ak.slots.size) (hv : v = f k) : Laid A (Ak.setSlot k v) lo (k + 1) f := by
  refine ⟨h.1, h.2.1, by simpa [Cell.setSlot] using h.2.2.1, fun i => ?_⟩
  by_cases e : k = i
  · subst e; rw [Cell.slots_setSlot_self v hk, if_pos (by omega), hv]
  · rw [Cell.slots_setSlot_ne v e, h.2.2.2 i]
    by_cases q : lo ≤ i ∧ i < k
    · rw [if_pos q, if_pos (by omega)]
    · rw [if_neg q, if_neg (by omega)]
def U16 : String := "java/lang/StringUTF16"
namespace Cmp5
def yN : MethodName := ⟨"java/lang/StringUTF16", "compress", "([CI[BII)I"⟩
abbrev yB : ByteArray := jdk_52_method_21_code
theorem d0 : decode yB 0 = .ok (.iconst 0, 1) := by decide +kernel
theorem d1 : decode yB 1 = .ok (.istore 5, 2) := by decide +kernel
theorem d3 : decode yB 3 = .ok (.iload 5, 2) := by decide +kernel
theorem d5 : decode yB 5 = .ok (.iload 4, 2) := by decide +kernel
theorem d7 : decode yB 7 = .ok (.if_icmp (.ge) 37, 3) := by decide +kernel
theorem d10 : decode yB 10 = .ok (.aload_n 0, 1) := by decide +kernel
theorem d11 : decode yB 11 = .ok (.iload_n 1, 1) := by decide +kernel
theorem d12 : decode yB 12 = .ok (.caload, 1) := by decide +kernel
theorem d13 : decode yB 13 = .ok (.istore 6, 2) := by decide +kernel
theorem d15 : decode yB 15 = .ok (.iload 6, 2) := by decide +kernel
theorem d17 : decode yB 17 = .ok (.sipush 255, 3) := by decide +kernel
theorem d20 : decode yB 20 = .ok (.if_icmp (.le) 6, 3) := by decide +kernel
theorem d26 : decode yB 26 = .ok (.aload_n 2, 1) := by decide +kernel
theorem d27 : decode yB 27 = .ok (.iload_n 3, 1) := by decide +kernel
theorem d28 : decode yB 28 = .ok (.iload 6, 2) := by decide +kernel
theorem d30 : decode yB 30 = .ok (.i2b, 1) := by decide +kernel
theorem d31 : decode yB 31 = .ok (.bastore, 1) := by decide +kernel
theorem d32 : decode yB 32 = .ok (.iinc 1 1, 3) := by decide +kernel
theorem d35 : decode yB 35 = .ok (.iinc 3 1, 3) := by decide +kernel
theorem d38 : decode yB 38 = .ok (.iinc 5 1, 3) := by decide +kernel
theorem d41 : decode yB 41 = .ok (.goto (-38), 3) := by decide +kernel
theorem d44 : decode yB 44 = .ok (.iload 4, 2) := by decide +kernel
theorem d46 : decode yB 46 = .ok (.ireturn, 1) := by decide +kernel
def site : List Cond := []
def tab : Cond := tabOf yN yB 7 (some .int) site
def P (b : Addr) (A : Cell) (d : Addr) (B : Cell) (o q len : Nat) (args : Array Value) (s : State) : Prop := args = #[.ref b, .int (Int32.ofNat o), .ref d, .int (Int32.ofNat q), .int (Int32.ofNat len)] ∧ Ch b A s ∧ Arr .byte d B s ∧ b ≠ d ∧ o + len ≤ A.slots.size ∧ q + len ≤ B.slots.size ∧ ∀ i, i < len → ¬ 255 < cv A (o + i)
def E (b : Addr) (A : Cell) (d : Addr) (B : Cell) (o q len : Nat) (r : Option Value) (s u : State) : Prop := r = some (.int (Int32.ofNat len)) ∧ ∃ B', Put d B' s u ∧ Laid B B' q (q + len) (fun j => Value.int (lo8 (cv A (o + (j - q)))))
/-- no char of the range above 255: len; the places written hold each char's low byte -/
theorem law (l : Launch) (b : Addr) (A : Cell) (d : Addr) (B : Cell) (o q len : Nat) : Law l yN 5 5 0 0 yB 7 (some .int) site (P b A d B o q len) (E b A d B o q len) (copyLocs d q len) 0 0 := by
  refine Law.of_walk (plainFor_of_name (by decide +kernel)) (by decide +kernel) (by decide +kernel) (by decide) (fun _ _ h => by rw [h.1]; rfl) (fun _ U U' hal hh h => ⟨h.1, h.2.1.mv hal hh, h.2.2.1.mv hal hh, h.2.2.2⟩) (fun r U U' V V' h1 hal h2 h => ⟨h.1, h.2.elim fun B' q => ⟨B', q.1.mv h1 h2, q.2⟩⟩) ?_
  intro p e s m args below meth c s₁ X0 hexec hbytes hml hret hlk hnm hown hh0 W hP
  obtain ⟨rfl, hA, hB, hne, l1, l2, hp⟩ := hP
  have c1 : Steps p.tables e below (s₁.setTop (entryFrame m #[.ref b, .int (Int32.ofNat o), .ref d, .int (Int32.ofNat q), .int (Int32.ofNat len)] 7)) (s₁.setTop (mkF m 0 #[.val (.ref b), .val (.int (Int32.ofNat o)), .val (.ref d), .val (.int (Int32.ofNat q)), .val (.int (Int32.ofNat len)), .unset, .unset] [])) := entry rfl
  have hA0 := hA.1.mv X0.warmed.alike hh0
  have hB0 := hB.mv X0.warmed.alike hh0
  have a31 := hA.1.2.2.2
  have c2 : Steps p.tables e below (s₁.setTop (entryFrame m #[.ref b, .int (Int32.ofNat o), .ref d, .int (Int32.ofNat q), .int (Int32.ofNat len)] 7)) (s₁.setTop (mkF m 3 #[.val (.ref b), .val (.int (Int32.ofNat o)), .val (.ref d), .val (.int (Int32.ofNat q)), .val (.int (Int32.ofNat len)), .val (.int 0), .unset] [])) := c1.trans (by
    refine iconstV X0.here hexec rfl 0 (hb hbytes d0) (by decide) ?_
    refine XS.istore X0.here hexec rfl (hb hbytes d1) rfl rfl ?_
    exact Steps.refl _)
  have loop : ∀ (r i : Nat), i + r = len → ∀ (z : Slot), (z = .unset ∨ ∃ w, z = .val w ∧ w.category = 1) → ∀ (Tl : State) (Bk : Cell), Stand p l e { frames := 0, locals := 0, cells := 0, slots := 0 } s m #[.ref b, .int (Int32.ofNat o), .ref d, .int (Int32.ofNat q), .int (Int32.ofNat len)] below meth c Tl ([] ++ copyLocs d q i) 0 0 → Put d Bk s₁ Tl → Laid B Bk q (q + i) (fun j => Value.int (lo8 (cv A (o + (j - q))))) →
      Steps p.tables e below (s₁.setTop (entryFrame m #[.ref b, .int (Int32.ofNat o), .ref d, .int (Int32.ofNat q), .int (Int32.ofNat len)] 7)) (Tl.setTop (mkF m 3 #[.val (.ref b), .val (.int (Int32.ofNat (o + i))), .val (.ref d), .val (.int (Int32.ofNat (q + i))), .val (.int (Int32.ofNat len)), .val (.int (Int32.ofNat i)), z] [])) → ∃ (T' : State) (B' : Cell) (z' : Slot), Stand p l e { frames := 0, locals := 0, cells := 0, slots := 0 } s m #[.ref b, .int (Int32.ofNat o), .ref d, .int (Int32.ofNat q), .int (Int32.ofNat len)] below meth c T' ([] ++ copyLocs d q len) 0 0 ∧ Put d B' s₁ T' ∧ Laid B B' q (q + len) (fun j => Value.int (lo8 (cv A (o + (j - q))))) ∧
      Steps p.tables e below (s₁.setTop (entryFrame m #[.ref b, .int (Int32.ofNat o), .ref d, .int (Int32.ofNat q), .int (Int32.ofNat len)] 7)) (T'.setTop (mkF m 3 #[.val (.ref b), .val (.int (Int32.ofNat (o + len))), .val (.ref d), .val (.int (Int32.ofNat (q + len))), .val (.int (Int32.ofNat len)), .val (.int (Int32.ofNat len)), z'] [])) := by
    intro r
    induction r with
    | zero =>
      intro i hi z hz Tl Bk Xl pl fl cl
      have hil : i = len := by omega
      rw [hil] at Xl fl cl
      exact ⟨Tl, Bk, z, Xl, pl, fl, cl⟩
    | succ r ih =>
      intro i hi z hz Tl Bk Xl pl fl cl
      have all := X0.warmed.alike.symm.trans Xl.warmed.alike
      have hAl := hA0.keep all (pl.other hne hA0.1)
      have hBk := hB0.like all pl.1 fl.1 fl.2.1 fl.2.2.1
      have hlt : q + i < Bk.slots.size := by rw [fl.2.2.1]; omega
      have c3 : Steps p.tables e below (s₁.setTop (entryFrame m #[.ref b, .int (Int32.ofNat o), .ref d, .int (Int32.ofNat q), .int (Int32.ofNat len)] 7)) (Tl.setTop (mkF m 12 #[.val (.ref b), .val (.int (Int32.ofNat (o + i))), .val (.ref d), .val (.int (Int32.ofNat (q + i))), .val (.int (Int32.ofNat len)), .val (.int (Int32.ofNat i)), z] [.int (Int32.ofNat (o + i)), .ref b])) := cl.trans (by
        refine XS.iload Xl.here hexec rfl (hb hbytes d3) rfl ?_
        refine XS.iload Xl.here hexec rfl (hb hbytes d5) rfl ?_
        refine XS.icmpNo Xl.here hexec rfl (hb hbytes d7) rfl (ii_ge_f (lt32 (by omega) (by omega))) ?_
        refine XS.aloadN Xl.here hexec rfl (hb hbytes d10) rfl rfl ?_
        refine XS.iloadN Xl.here hexec rfl (hb hbytes d11) rfl ?_
        exact Steps.refl _)
      have c4 : Steps p.tables e below (s₁.setTop (entryFrame m #[.ref b, .int (Int32.ofNat o), .ref d, .int (Int32.ofNat q), .int (Int32.ofNat len)] 7)) (Tl.setTop (mkF m 13 #[.val (.ref b), .val (.int (Int32.ofNat (o + i))), .val (.ref d), .val (.int (Int32.ofNat (q + i))), .val (.int (Int32.ofNat len)), .val (.int (Int32.ofNat i)), z] [.int (cv A (o + i))])) := c3.trans (by
        refine Xl.aget hexec hAl rfl (hA.get (i := o + i) (by omega)) rfl rfl (hb hbytes d12) ?_
        exact Steps.refl _)
      have c5 : Steps p.tables e below (s₁.setTop (entryFrame m #[.ref b, .int (Int32.ofNat o), .ref d, .int (Int32.ofNat q), .int (Int32.ofNat len)] 7)) (Tl.setTop (mkF m 15 #[.val (.ref b), .val (.int (Int32.ofNat (o + i))), .val (.ref d), .val (.int (Int32.ofNat (q + i))), .val (.int (Int32.ofNat len)), .val (.int (Int32.ofNat i)), .val (.int (cv A (o + i)))] [])) := c4.trans (by
        refine XS.istoreS Xl.here hexec rfl (hb hbytes d13) rfl rfl hz ?_
        exact Steps.refl _)
      have c6 : Steps p.tables e below (s₁.setTop (entryFrame m #[.ref b, .int (Int32.ofNat o), .ref d, .int (Int32.ofNat q), .int (Int32.ofNat len)] 7)) (Tl.setTop (mkF m 31 #[.val (.ref b), .val (.int (Int32.ofNat (o + i))), .val (.ref d), .val (.int (Int32.ofNat (q + i))), .val (.int (Int32.ofNat len)), .val (.int (Int32.ofNat i)), .val (.int (cv A (o + i)))] [.int (lo8 (cv A (o + i))), .int (Int32.ofNat (q + i)), .ref d])) := c5.trans (by
        refine XS.iload Xl.here hexec rfl (hb hbytes d15) rfl ?_
        refine sipushV Xl.here hexec rfl 255 (hb hbytes d17) (by decide) ?_
        refine XS.icmpYes Xl.here hexec rfl (pc0 := 20) rfl (hb hbytes d20) rfl (ii_le_t (hp i (by omega))) (by decide) rfl ?_
        refine XS.aloadN Xl.here hexec rfl (hb hbytes d26) rfl rfl ?_
        refine XS.iloadN Xl.here hexec rfl (hb hbytes d27) rfl ?_
        refine XS.iload Xl.here hexec rfl (hb hbytes d28) rfl ?_
        refine i2b Xl.here hexec rfl (hb hbytes d30) rfl ?_
        exact Steps.refl _)
      obtain ⟨T7, X7, p7, st7⟩ := Xl.aput hexec hBk rfl hlt rfl (fits_lo8 (cv A (o + i))) (g := (mkF m 31 #[.val (.ref b), .val (.int (Int32.ofNat (o + i))), .val (.ref d), .val (.int (Int32.ofNat (q + i))), .val (.int (Int32.ofNat len)), .val (.int (Int32.ofNat i)), .val (.int (cv A (o + i)))] [.int (lo8 (cv A (o + i))), .int (Int32.ofNat (q + i)), .ref d])) rfl (rest := []) rfl (hb hbytes d31)
      have c8 : Steps p.tables e below (s₁.setTop (entryFrame m #[.ref b, .int (Int32.ofNat o), .ref d, .int (Int32.ofNat q), .int (Int32.ofNat len)] 7)) (T7.setTop (mkF m 32 #[.val (.ref b), .val (.int (Int32.ofNat (o + i))), .val (.ref d), .val (.int (Int32.ofNat (q + i))), .val (.int (Int32.ofNat len)), .val (.int (Int32.ofNat i)), .val (.int (cv A (o + i)))] [])) := c6.trans (st7 _ (Steps.refl _))
      have c9 : Steps p.tables e below (s₁.setTop (entryFrame m #[.ref b, .int (Int32.ofNat o), .ref d, .int (Int32.ofNat q), .int (Int32.ofNat len)] 7)) (T7.setTop (mkF m 3 #[.val (.ref b), .val (.int (Int32.ofNat (o + i) + 1)), .val (.ref d), .val (.int (Int32.ofNat (q + i) + 1)), .val (.int (Int32.ofNat len)), .val (.int (Int32.ofNat i + 1)), .val (.int (cv A (o + i)))] [])) := c8.trans (by
        refine iincV X7.here hexec rfl 1 (hb hbytes d32) (by decide) rfl rfl ?_
        refine iincV X7.here hexec rfl 1 (hb hbytes d35) (by decide) rfl rfl ?_
        refine iincV X7.here hexec rfl 1 (hb hbytes d38) (by decide) rfl rfl ?_
        refine XS.goto X7.here hexec rfl (pc0 := 41) rfl (hb hbytes d41) (by decide) rfl ?_
        exact Steps.refl _)
      have c10 : Steps p.tables e below (s₁.setTop (entryFrame m #[.ref b, .int (Int32.ofNat o), .ref d, .int (Int32.ofNat q), .int (Int32.ofNat len)] 7)) (T7.setTop (mkF m 3 #[.val (.ref b), .val (.int (Int32.ofNat (o + (i + 1)))), .val (.ref d), .val (.int (Int32.ofNat (q + (i + 1)))), .val (.int (Int32.ofNat len)), .val (.int (Int32.ofNat (i + 1))), .val (.int (cv A (o + i)))] [])) := by
        have := c9
        rw [succ32, succ32, succ32] at this
        exact this
      exact ih (i + 1) (by omega) _ (Or.inr ⟨_, rfl, rfl⟩) T7 _ (by rw [copyLocs_step, ← List.append_assoc]; exact X7) (pl.trans p7) (fl.step (by omega) hlt (by simp)) c10
  obtain ⟨T9, B9, z9, X9, p9, f9, g9⟩ := loop len 0 (by omega) .unset (Or.inl rfl) s₁ B (by simpa [copyLocs] using X0) ⟨hB0.1, fun _ _ => rfl, rfl⟩ (Laid.zero _ _ _) c2
  have c11 : Steps p.tables e below (s₁.setTop (entryFrame m #[.ref b, .int (Int32.ofNat o), .ref d, .int (Int32.ofNat q), .int (Int32.ofNat len)] 7)) (T9.setTop (mkF m 46 #[.val (.ref b), .val (.int (Int32.ofNat (o + len))), .val (.ref d), .val (.int (Int32.ofNat (q + len))), .val (.int (Int32.ofNat len)), .val (.int (Int32.ofNat len)), z9] [.int (Int32.ofNat len)])) := g9.trans (by
    refine XS.iload X9.here hexec rfl (hb hbytes d3) rfl ?_
    refine XS.iload X9.here hexec rfl (hb hbytes d5) rfl ?_
    refine XS.icmpYes X9.here hexec rfl (pc0 := 7) rfl (hb hbytes d7) rfl (ii_ge_t (nlt32 (by omega) (Nat.le_refl _))) (by decide) rfl ?_
    refine XS.iload X9.here hexec rfl (hb hbytes d44) rfl ?_
    exact Steps.refl _)
  exact ⟨T9, some (.int (Int32.ofNat len)), _, _, _, X9, by simp, rfl, rfl, (fun h => by cases h), ⟨rfl, B9, p9.from hh0, f9⟩, fun fs hl => c11.trans (X9.ireturnOut hexec hret rfl (Or.inl rfl) (hb hbytes d46) hl)⟩
end Cmp5
namespace Cmp3
def yN : MethodName := ⟨"java/lang/StringUTF16", "compress", "([CII)[B"⟩
abbrev yB : ByteArray := jdk_52_method_16_code
theorem d0 : decode yB 0 = .ok (.iload_n 2, 1) := by decide +kernel
theorem d1 : decode yB 1 = .ok (.newarray .byte, 2) := by decide +kernel
theorem d3 : decode yB 3 = .ok (.astore_n 3, 1) := by decide +kernel
theorem d4 : decode yB 4 = .ok (.aload_n 0, 1) := by decide +kernel
theorem d5 : decode yB 5 = .ok (.iload_n 1, 1) := by decide +kernel
theorem d6 : decode yB 6 = .ok (.aload_n 3, 1) := by decide +kernel
theorem d7 : decode yB 7 = .ok (.iconst 0, 1) := by decide +kernel
theorem d8 : decode yB 8 = .ok (.iload_n 2, 1) := by decide +kernel
theorem d9 : decode yB 9 = .ok (.invokestatic 115, 3) := by decide +kernel
theorem d12 : decode yB 12 = .ok (.istore 4, 2) := by decide +kernel
theorem d14 : decode yB 14 = .ok (.iload 4, 2) := by decide +kernel
theorem d16 : decode yB 16 = .ok (.iload_n 2, 1) := by decide +kernel
theorem d17 : decode yB 17 = .ok (.if_icmp (.eq) 40, 3) := by decide +kernel
theorem d57 : decode yB 57 = .ok (.aload_n 3, 1) := by decide +kernel
theorem d58 : decode yB 58 = .ok (.areturn, 1) := by decide +kernel
def site : List Cond := [.arrayClass .byte, Cmp5.tab] ++ staticW U16 115 Cmp5.yN
def tab : Cond := tabOf yN yB 6 (some (.array .byte)) site
def P (b : Addr) (A : Cell) (o len : Nat) (args : Array Value) (s : State) : Prop := args = #[.ref b, .int (Int32.ofNat o), .int (Int32.ofNat len)] ∧ Ch b A s ∧ o + len ≤ A.slots.size ∧ len ≤ 536870912 ∧ ∀ i, i < len → ¬ 255 < cv A (o + i)
def E (b : Addr) (A : Cell) (o len : Nat) (r : Option Value) (s u : State) : Prop := NewArr .byte "[B" len (fun j => .int (lo8 (cv A (o + j)))) r s u ∧ u.heap.size = s.heap.size + 1
/-- no char of the range above 255: a new byte[] of their low bytes -/
theorem law (l : Launch) (b : Addr) (A : Cell) (o len : Nat) : Law l yN 3 3 1 18 yB 6 (some (.array .byte)) site (P b A o len) (E b A o len) [] 1 len := by
  refine Law.of_walk (plainFor_of_name (by decide +kernel)) (by decide +kernel) (by decide +kernel) (by decide) (fun _ _ h => by rw [h.1]; rfl) (fun _ U U' hal hh h => ⟨h.1, h.2.1.mv hal hh, h.2.2⟩) (fun r U U' V V' h1 hal h2 h => ⟨NewArr.mv r U U' V V' h1 hal h2 h.1, by rw [h1, h2]; exact h.2⟩) ?_
  intro p e s m args below meth c s₁ X0 hexec hbytes hml hret hlk hnm hown hh0 W hP
  obtain ⟨rfl, hA, l1, l2, hp⟩ := hP
  have a31 := hA.1.2.2.2
  have c1 : Steps p.tables e below (s₁.setTop (entryFrame m #[.ref b, .int (Int32.ofNat o), .int (Int32.ofNat len)] 6)) (s₁.setTop (mkF m 0 #[.val (.ref b), .val (.int (Int32.ofNat o)), .val (.int (Int32.ofNat len)), .unset, .unset, .unset] [])) := entry rfl
  have c2 : Steps p.tables e below (s₁.setTop (entryFrame m #[.ref b, .int (Int32.ofNat o), .int (Int32.ofNat len)] 6)) (s₁.setTop (mkF m 1 #[.val (.ref b), .val (.int (Int32.ofNat o)), .val (.int (Int32.ofNat len)), .unset, .unset, .unset] [.int (Int32.ofNat len)])) := c1.trans (by
    refine XS.iloadN X0.here hexec rfl (hb hbytes d0) rfl ?_
    exact Steps.refl _)
  obtain ⟨T3, B3, X3, ba3, bs3, bv3, bh3, bf3, st3⟩ := X0.anew hexec (atype := .byte) (wk W (.arrayClass .byte)) rfl (by show len * 1 ≤ _; omega) (by omega) (g := (mkF m 1 #[.val (.ref b), .val (.int (Int32.ofNat o)), .val (.int (Int32.ofNat len)), .unset, .unset, .unset] [.int (Int32.ofNat len)])) rfl (hb hbytes d1) (rest := []) rfl (Nat.le_refl _) (by show 0 + len ≤ len; omega)
  rw [hh0] at ba3 st3
  have kp3 : XT.Kept s T3 := (XT.Kept.of_eq hh0).push bh3
  have hA3 := hA.keep X3.warmed.alike (kp3 _ _ hA.1.1)
  have hne : b ≠ s.heap.size := hA.1.ne
  have c4 : Steps p.tables e below (s₁.setTop (entryFrame m #[.ref b, .int (Int32.ofNat o), .int (Int32.ofNat len)] 6)) (T3.setTop (mkF m 3 #[.val (.ref b), .val (.int (Int32.ofNat o)), .val (.int (Int32.ofNat len)), .unset, .unset, .unset] [.ref s.heap.size])) := c2.trans (st3 _ (Steps.refl _))
  have c5 : Steps p.tables e below (s₁.setTop (entryFrame m #[.ref b, .int (Int32.ofNat o), .int (Int32.ofNat len)] 6)) (T3.setTop (mkF m 9 #[.val (.ref b), .val (.int (Int32.ofNat o)), .val (.int (Int32.ofNat len)), .val (.ref s.heap.size), .unset, .unset] [.int (Int32.ofNat len), .int 0, .ref s.heap.size, .int (Int32.ofNat o), .ref b])) := c4.trans (by
    refine XS.astoreN X3.here hexec rfl (hb hbytes d3) rfl rfl rfl ?_
    refine XS.aloadN X3.here hexec rfl (hb hbytes d4) rfl rfl ?_
    refine XS.iloadN X3.here hexec rfl (hb hbytes d5) rfl ?_
    refine XS.aloadN X3.here hexec rfl (hb hbytes d6) rfl rfl ?_
    refine iconstV X3.here hexec rfl 0 (hb hbytes d7) (by decide) ?_
    refine XS.iloadN X3.here hexec rfl (hb hbytes d8) rfl ?_
    exact Steps.refl _)
  obtain ⟨v6, T6, X6, E6, g6⟩ := X3.callS hexec (Cmp5.law l b A s.heap.size B3 o 0 len) hown (wks W (staticW U16 115 Cmp5.yN)) (wk W Cmp5.tab) (W := 0) (Nat.le_of_ble_eq_true rfl) (Nat.le_of_ble_eq_true rfl) (Nat.le_refl _) (by show 0 + len + 0 ≤ len; omega) (g := (mkF m 9 #[.val (.ref b), .val (.int (Int32.ofNat o)), .val (.int (Int32.ofNat len)), .val (.ref s.heap.size), .unset, .unset] [.int (Int32.ofNat len), .int (Int32.ofNat 0), .ref s.heap.size, .int (Int32.ofNat o), .ref b])) rfl (by rw [hml]; rfl) c5 (argsL := [.ref b, .int (Int32.ofNat o), .ref s.heap.size, .int (Int32.ofNat 0), .int (Int32.ofNat len)]) (rest := []) rfl rfl (by show 2 * 0 + 0 ≤ _; decide) (hb hbytes d9) (⟨rfl, hA3, ba3, hne, l1, by rw [bs3]; simp, hp⟩)
  obtain ⟨rfl, B6, p6, f6⟩ := E6
  have c7 : Steps p.tables e below (s₁.setTop (entryFrame m #[.ref b, .int (Int32.ofNat o), .int (Int32.ofNat len)] 6)) (T6.setTop (mkF m 12 #[.val (.ref b), .val (.int (Int32.ofNat o)), .val (.int (Int32.ofNat len)), .val (.ref s.heap.size), .unset, .unset] [.int (Int32.ofNat len)])) := g6
  have c8 : Steps p.tables e below (s₁.setTop (entryFrame m #[.ref b, .int (Int32.ofNat o), .int (Int32.ofNat len)] 6)) (T6.setTop (mkF m 58 #[.val (.ref b), .val (.int (Int32.ofNat o)), .val (.int (Int32.ofNat len)), .val (.ref s.heap.size), .val (.int (Int32.ofNat len)), .unset] [.ref s.heap.size])) := c7.trans (by
    refine XS.istore X6.here hexec rfl (hb hbytes d12) rfl rfl ?_
    refine XS.iload X6.here hexec rfl (hb hbytes d14) rfl ?_
    refine XS.iloadN X6.here hexec rfl (hb hbytes d16) rfl ?_
    refine XS.icmpYes X6.here hexec rfl (pc0 := 17) rfl (hb hbytes d17) rfl (ii_eq_t rfl) (by decide) rfl ?_
    refine XS.aloadN X6.here hexec rfl (hb hbytes d57) rfl rfl ?_
    exact Steps.refl _)
  have X8 := X6.wide (L' := []) (cells' := 1) (slots' := len) (fun x hx hlt => by
    simp only [List.nil_append, copyLocs, List.mem_map, List.mem_range] at hx
    obtain ⟨i, -, rfl⟩ := hx
    exact absurd hlt (Nat.lt_irrefl _)) (Nat.le_refl _) (by omega)
  exact ⟨T6, some (.ref s.heap.size), _, _, _, X8, rfl, rfl, rfl, (fun h => by cases h), ⟨⟨rfl, B6, ba3.like (X3.warmed.alike.symm.trans X6.warmed.alike) p6.1 f6.1 f6.2.1 f6.2.2.1, f6.2.1.trans bv3, by rw [X6.warmed.alike.findClass, f6.1]; exact bf3, by rw [f6.2.2.1, bs3]; simp, fun j hj => by rw [f6.2.2.2 j, if_pos (by omega)]; rfl, kp3.put p6 (Nat.le_refl _)⟩, by rw [p6.2.2, bh3, hh0]; simp⟩, fun fs hl => c8.trans (X8.areturnOut hexec rfl hret rfl (hb hbytes d58) hl)⟩
end Cmp3
namespace CodL
def yN : MethodName := ⟨"java/lang/StringUTF16", "coderFromArrayLen", "([BI)B"⟩
abbrev yB : ByteArray := jdk_52_method_15_code
theorem d0 : decode yB 0 = .ok (.iload_n 1, 1) := by decide +kernel
theorem d1 : decode yB 1 = .ok (.aload_n 0, 1) := by decide +kernel
theorem d2 : decode yB 2 = .ok (.arraylength, 1) := by decide +kernel
theorem d3 : decode yB 3 = .ok (.isub, 1) := by decide +kernel
theorem d4 : decode yB 4 = .ok (.bipush 31, 2) := by decide +kernel
theorem d6 : decode yB 6 = .ok (.iushr, 1) := by decide +kernel
theorem d7 : decode yB 7 = .ok (.i2b, 1) := by decide +kernel
theorem d8 : decode yB 8 = .ok (.ireturn, 1) := by decide +kernel
def site : List Cond := []
def tab : Cond := tabOf yN yB 2 (some .byte) site
def P (d : Addr) (B : Cell) (args : Array Value) (s : State) : Prop := args = #[.ref d, .int (Int32.ofNat B.slots.size)] ∧ Arr .byte d B s
def E (r : Option Value) (s u : State) : Prop := XT.PureE (some (.int 0)) r s u
/-- an array as long as the number of chars: LATIN1 -/
theorem law (l : Launch) (d : Addr) (B : Cell) : Law l yN 2 2 0 0 yB 2 (some .byte) site (P d B) E [] 0 0 := by
  refine Law.of_walk (plainFor_of_name (by decide +kernel)) (by decide +kernel) (by decide +kernel) (by decide) (fun _ _ h => by rw [h.1]; rfl) (fun _ U U' hal hh h => ⟨h.1, h.2.mv hal hh⟩) (fun r U U' V V' h1 hal h2 h => XT.PureE.mv r U U' V V' h1 hal h2 h) ?_
  intro p e s m args below meth c s₁ X0 hexec hbytes hml hret hlk hnm hown hh0 W hP
  obtain ⟨rfl, hB⟩ := hP
  have hB0 := hB.mv X0.warmed.alike hh0
  have c1 : Steps p.tables e below (s₁.setTop (entryFrame m #[.ref d, .int (Int32.ofNat B.slots.size)] 2)) (s₁.setTop (mkF m 0 #[.val (.ref d), .val (.int (Int32.ofNat B.slots.size))] [])) := entry rfl
  have c2 : Steps p.tables e below (s₁.setTop (entryFrame m #[.ref d, .int (Int32.ofNat B.slots.size)] 2)) (s₁.setTop (mkF m 2 #[.val (.ref d), .val (.int (Int32.ofNat B.slots.size))] [.ref d, .int (Int32.ofNat B.slots.size)])) := c1.trans (by
    refine XS.iloadN X0.here hexec rfl (hb hbytes d0) rfl ?_
    refine XS.aloadN X0.here hexec rfl (hb hbytes d1) rfl rfl ?_
    exact Steps.refl _)
  have c3 : Steps p.tables e below (s₁.setTop (entryFrame m #[.ref d, .int (Int32.ofNat B.slots.size)] 2)) (s₁.setTop (mkF m 8 #[.val (.ref d), .val (.int (Int32.ofNat B.slots.size))] [.int (lo8 (ushr (Int32.ofNat B.slots.size - Int32.ofNat B.slots.size) 31))])) := c2.trans (by
    refine X0.alen hexec hB0 rfl rfl (hb hbytes d2) ?_
    refine XS.isub X0.here hexec rfl (hb hbytes d3) rfl ?_
    refine bipushV X0.here hexec rfl 31 (hb hbytes d4) (by decide) ?_
    refine iushr X0.here hexec rfl (hb hbytes d6) rfl ?_
    refine i2b X0.here hexec rfl (hb hbytes d7) rfl ?_
    exact Steps.refl _)
  have e0 : lo8 (ushr (Int32.ofNat B.slots.size - Int32.ofNat B.slots.size) 31) = 0 := by rw [Int32.sub_self]; decide
  rw [e0] at c3
  exact ⟨s₁, some (.int 0), _, _, _, X0, rfl, rfl, rfl, (fun h => by cases h), ⟨rfl, hh0⟩, fun fs hl => c3.trans (X0.ireturnOut hexec hret rfl (Or.inr (Or.inr (Or.inl rfl))) (hb hbytes d8) hl)⟩
end CodL
/-- the String at a is Latin-1 over a new byte[] (the heap's one new cell): the low bytes of the len chars of A from o on; every cell but a is kept -/
def Got (a : Addr) (D : Cell) (fV fC : Field) (A : Cell) (o len : Nat) (r : Option Value) (s u : State) : Prop := r = none ∧ ∃ D' V : Cell, Blank "java/lang/String" a D' u ∧ Same D D' [fV.slot, fC.slot] ∧ D'.slots[fV.slot]? = some (.ref s.heap.size) ∧ D'.slots[fC.slot]? = some (.int 0) ∧ Arr .byte s.heap.size V u ∧ V.vm = .none ∧ u.vm.findClass "[B" = some V.cls ∧ V.slots.size = len ∧ (∀ j, j < len → V.slots[j]? = some (.int (lo8 (cv A (o + j))))) ∧ (∀ (y : Addr) (c : Cell), y ≠ a → s.heap[y]? = some c → u.heap[y]? = some c) ∧ u.heap.size = s.heap.size + 1
theorem Got.mv {a : Addr} {D A : Cell} {fV fC : Field} {o len : Nat} : ∀ r (U U' V V' : State), U'.heap = U.heap → V.vm.Alike V'.vm → V'.heap = V.heap → Got a D fV fC A o len r U V → Got a D fV fC A o len r U' V' :=
  fun r U U' V V' h1 hal h2 ⟨e0, D', X, a1, a2, a3, a4, a5, a6, a7, a8, a9, a10, a11⟩ => ⟨e0, D', X, a1.mv hal h2, a2, by rw [h1]; exact a3, a4, by rw [h1]; exact a5.mv hal h2, a6, by rw [hal.findClass]; exact a7, a8, a9, by rw [h1, h2]; exact a10, by rw [h1, h2]; exact a11⟩
namespace New4
def yN : MethodName := ⟨"java/lang/String", "<init>", "([CIILjava/lang/Void;)V"⟩
abbrev yB : ByteArray := jdk_42_method_149_code
theorem d0 : decode yB 0 = .ok (.aload_n 0, 1) := by decide +kernel
theorem d1 : decode yB 1 = .ok (.invokespecial 1, 3) := by decide +kernel
theorem d4 : decode yB 4 = .ok (.iload_n 3, 1) := by decide +kernel
theorem d5 : decode yB 5 = .ok (.ifCond (.ne) 22, 3) := by decide +kernel
theorem d27 : decode yB 27 = .ok (.getstatic 38, 3) := by decide +kernel
theorem d30 : decode yB 30 = .ok (.ifCond (.eq) 28, 3) := by decide +kernel
theorem d33 : decode yB 33 = .ok (.aload_n 1, 1) := by decide +kernel
theorem d34 : decode yB 34 = .ok (.iload_n 2, 1) := by decide +kernel
theorem d35 : decode yB 35 = .ok (.iload_n 3, 1) := by decide +kernel
theorem d36 : decode yB 36 = .ok (.invokestatic 177, 3) := by decide +kernel
theorem d39 : decode yB 39 = .ok (.astore 5, 2) := by decide +kernel
theorem d41 : decode yB 41 = .ok (.aload_n 0, 1) := by decide +kernel
theorem d42 : decode yB 42 = .ok (.aload 5, 2) := by decide +kernel
theorem d44 : decode yB 44 = .ok (.iload_n 3, 1) := by decide +kernel
theorem d45 : decode yB 45 = .ok (.invokestatic 47, 3) := by decide +kernel
theorem d48 : decode yB 48 = .ok (.putfield 15, 3) := by decide +kernel
theorem d51 : decode yB 51 = .ok (.aload_n 0, 1) := by decide +kernel
theorem d52 : decode yB 52 = .ok (.aload 5, 2) := by decide +kernel
theorem d54 : decode yB 54 = .ok (.putfield 9, 3) := by decide +kernel
theorem d57 : decode yB 57 = .ok (.return_, 1) := by decide +kernel
def site : List Cond := [.fieldLink "java/lang/String" 38 "java/lang/String" "COMPACT_STRINGS" "Z", Cmp3.tab, CodL.tab, .laysFinal "java/lang/String" "java/lang/String" "value" "[B", .fieldLink "java/lang/String" 9 "java/lang/String" "value" "[B", .laysFinal "java/lang/String" "java/lang/String" "coder" "B", .fieldLink "java/lang/String" 15 "java/lang/String" "coder" "B"] ++ objW "java/lang/String" 1 ++ staticW "java/lang/String" 177 Cmp3.yN ++ staticW "java/lang/String" 47 CodL.yN
def tab : Cond := tabOf yN yB 6 none site
def P (a : Addr) (D : Cell) (fV fC : Field) (b : Addr) (A : Cell) (z : Int32) (o len : Nat) (args : Array Value) (s : State) : Prop := args = #[.ref a, .ref b, .int (Int32.ofNat o), .int (Int32.ofNat len), .null] ∧ Blank "java/lang/String" a D s ∧ Found "java/lang/String" "value" "[B" fV s ∧ Found "java/lang/String" "coder" "B" fC s ∧ Ch b A s ∧ StaticIs s "java/lang/String" "COMPACT_STRINGS" "Z" (.int z) ∧ ¬ z = 0 ∧ 0 < len ∧ o + len ≤ A.slots.size ∧ len ≤ 536870912 ∧ ∀ i, i < len → ¬ 255 < cv A (o + i)
def E (a : Addr) (D : Cell) (fV fC : Field) (A : Cell) (o len : Nat) (r : Option Value) (s u : State) : Prop := Got a D fV fC A o len r s u
/-- len > 0, no char of the range above 255: a Latin-1 String of their low bytes -/
theorem law (l : Launch) (a : Addr) (D : Cell) (fV fC : Field) (b : Addr) (A : Cell) (z : Int32) (o len : Nat) : Law l yN 5 4 2 35 yB 6 none site (P a D fV fC b A z o len) (E a D fV fC A o len) [⟨a, fC.slot⟩, ⟨a, fV.slot⟩] 1 len := by
  refine Law.of_walk (plainFor_of_name (by decide +kernel)) (by decide +kernel) (by decide +kernel) (by decide) (fun _ _ h => by rw [h.1]; rfl) (fun _ U U' hal hh h => ⟨h.1, h.2.1.mv hal hh, h.2.2.1.al hal, h.2.2.2.1.al hal, h.2.2.2.2.1.mv hal hh, h.2.2.2.2.2.1.there hal hh, h.2.2.2.2.2.2⟩) (fun r U U' V V' h1 hal h2 h => Got.mv r U U' V V' h1 hal h2 h) ?_
  intro p e s m args below meth c s₁ X0 hexec hbytes hml hret hlk hnm hown hh0 W hP
  obtain ⟨rfl, hB, f1, f2, hA, s1, hz, l0, l1, l2, hp⟩ := hP
  have a31 := hA.1.2.2.2
  have c1 : Steps p.tables e below (s₁.setTop (entryFrame m #[.ref a, .ref b, .int (Int32.ofNat o), .int (Int32.ofNat len), .null] 6)) (s₁.setTop (mkF m 0 #[.val (.ref a), .val (.ref b), .val (.int (Int32.ofNat o)), .val (.int (Int32.ofNat len)), .val .null, .unset] [])) := entry rfl
  have c2 : Steps p.tables e below (s₁.setTop (entryFrame m #[.ref a, .ref b, .int (Int32.ofNat o), .int (Int32.ofNat len), .null] 6)) (s₁.setTop (mkF m 1 #[.val (.ref a), .val (.ref b), .val (.int (Int32.ofNat o)), .val (.int (Int32.ofNat len)), .val .null, .unset] [.ref a])) := c1.trans (by
    refine XS.aloadN X0.here hexec rfl (hb hbytes d0) rfl rfl ?_
    exact Steps.refl _)
  obtain ⟨T3, X3, q3, st3⟩ := X0.oinit hexec hown (wks W (objW "java/lang/String" 1)) (g := (mkF m 1 #[.val (.ref a), .val (.ref b), .val (.int (Int32.ofNat o)), .val (.int (Int32.ofNat len)), .val .null, .unset] [.ref a])) rfl (by rw [hml]; rfl) (rest := []) rfl (hb hbytes d1) (W := 0) (by show 2 * 0 + 0 ≤ _; decide) (Nat.le_of_ble_eq_true rfl) (Nat.le_of_ble_eq_true rfl)
  have hh3 := q3.trans hh0
  have c4 : Steps p.tables e below (s₁.setTop (entryFrame m #[.ref a, .ref b, .int (Int32.ofNat o), .int (Int32.ofNat len), .null] 6)) (T3.setTop (mkF m 27 #[.val (.ref a), .val (.ref b), .val (.int (Int32.ofNat o)), .val (.int (Int32.ofNat len)), .val .null, .unset] [])) := (c2.trans (st3 _ (Steps.refl _))).trans (by
    refine XS.iloadN X3.here hexec rfl (hb hbytes d4) rfl ?_
    refine XS.ifYes X3.here hexec rfl (pc0 := 5) rfl (hb hbytes d5) rfl (i0_ne_t (nz32 (by omega) l0)) (by decide) rfl ?_
    exact Steps.refl _)
  obtain ⟨T5, X5, q5, st5⟩ := X3.sget hexec hown (wk W (.fieldLink "java/lang/String" 38 "java/lang/String" "COMPACT_STRINGS" "Z")) s1 (fun _ _ h => by rw [hh3]; exact h) (g := (mkF m 27 #[.val (.ref a), .val (.ref b), .val (.int (Int32.ofNat o)), .val (.int (Int32.ofNat len)), .val .null, .unset] [])) rfl (hb hbytes d27)
  have hh5 := q5.trans hh3
  have c6 : Steps p.tables e below (s₁.setTop (entryFrame m #[.ref a, .ref b, .int (Int32.ofNat o), .int (Int32.ofNat len), .null] 6)) (T5.setTop (mkF m 30 #[.val (.ref a), .val (.ref b), .val (.int (Int32.ofNat o)), .val (.int (Int32.ofNat len)), .val .null, .unset] [.int z])) := c4.trans (st5 _ (Steps.refl _))
  have c7 : Steps p.tables e below (s₁.setTop (entryFrame m #[.ref a, .ref b, .int (Int32.ofNat o), .int (Int32.ofNat len), .null] 6)) (T5.setTop (mkF m 36 #[.val (.ref a), .val (.ref b), .val (.int (Int32.ofNat o)), .val (.int (Int32.ofNat len)), .val .null, .unset] [.int (Int32.ofNat len), .int (Int32.ofNat o), .ref b])) := c6.trans (by
    refine XS.ifNo X5.here hexec rfl (hb hbytes d30) rfl (i0_eq_f hz) ?_
    refine XS.aloadN X5.here hexec rfl (hb hbytes d33) rfl rfl ?_
    refine XS.iloadN X5.here hexec rfl (hb hbytes d34) rfl ?_
    refine XS.iloadN X5.here hexec rfl (hb hbytes d35) rfl ?_
    exact Steps.refl _)
  obtain ⟨v8, T8, X8, E8, g8⟩ := X5.callS hexec (Cmp3.law l b A o len) hown (wks W (staticW "java/lang/String" 177 Cmp3.yN)) (wk W Cmp3.tab) (W := 0) (Nat.le_of_ble_eq_true rfl) (Nat.le_of_ble_eq_true rfl) (Nat.le_refl _) (by show 0 + len ≤ len; omega) (g := (mkF m 36 #[.val (.ref a), .val (.ref b), .val (.int (Int32.ofNat o)), .val (.int (Int32.ofNat len)), .val .null, .unset] [.int (Int32.ofNat len), .int (Int32.ofNat o), .ref b])) rfl (by rw [hml]; rfl) c7 (argsL := [.ref b, .int (Int32.ofNat o), .int (Int32.ofNat len)]) (rest := []) rfl rfl (by show 2 * 0 + 0 ≤ _; decide) (hb hbytes d36) (⟨rfl, hA.mv X5.warmed.alike hh5, l1, l2, hp⟩)
  obtain ⟨e8, z8⟩ := E8
  obtain ⟨rfl, N, n1, n2, n3, n4, n5, n6⟩ := NewArr.mv _ T5 s _ _ hh5.symm (Vm.Alike.refl _) rfl e8
  rw [hh5] at z8
  have hB1 := hB.keep X8.warmed.alike (n6 _ _ hB.1)
  have hne : s.heap.size ≠ a := (Nat.ne_of_lt (Array.getElem?_eq_some_iff.mp hB.1).1).symm
  have c9 : Steps p.tables e below (s₁.setTop (entryFrame m #[.ref a, .ref b, .int (Int32.ofNat o), .int (Int32.ofNat len), .null] 6)) (T8.setTop (mkF m 39 #[.val (.ref a), .val (.ref b), .val (.int (Int32.ofNat o)), .val (.int (Int32.ofNat len)), .val .null, .unset] [.ref s.heap.size])) := g8
  have c10 : Steps p.tables e below (s₁.setTop (entryFrame m #[.ref a, .ref b, .int (Int32.ofNat o), .int (Int32.ofNat len), .null] 6)) (T8.setTop (mkF m 45 #[.val (.ref a), .val (.ref b), .val (.int (Int32.ofNat o)), .val (.int (Int32.ofNat len)), .val .null, .val (.ref s.heap.size)] [.int (Int32.ofNat N.slots.size), .ref s.heap.size, .ref a])) := by
    have hc : Steps p.tables e below (s₁.setTop (entryFrame m #[.ref a, .ref b, .int (Int32.ofNat o), .int (Int32.ofNat len), .null] 6)) (T8.setTop (mkF m 45 #[.val (.ref a), .val (.ref b), .val (.int (Int32.ofNat o)), .val (.int (Int32.ofNat len)), .val .null, .val (.ref s.heap.size)] [.int (Int32.ofNat len), .ref s.heap.size, .ref a])) := c9.trans (by
      refine XS.astore X8.here hexec rfl (hb hbytes d39) rfl rfl rfl ?_
      refine XS.aloadN X8.here hexec rfl (hb hbytes d41) rfl rfl ?_
      refine XS.aload X8.here hexec rfl (hb hbytes d42) rfl rfl ?_
      refine XS.iloadN X8.here hexec rfl (hb hbytes d44) rfl ?_
      exact Steps.refl _)
    rw [n4]; exact hc
  obtain ⟨v11, T11, X11, E11, g11⟩ := X8.callS hexec (CodL.law l s.heap.size N) hown (wks W (staticW "java/lang/String" 47 CodL.yN)) (wk W CodL.tab) (W := 1) (Nat.le_of_ble_eq_true rfl) (Nat.le_of_ble_eq_true rfl) (Nat.le_refl _) (by show 0 + len + 0 ≤ len; omega) (g := (mkF m 45 #[.val (.ref a), .val (.ref b), .val (.int (Int32.ofNat o)), .val (.int (Int32.ofNat len)), .val .null, .val (.ref s.heap.size)] [.int (Int32.ofNat N.slots.size), .ref s.heap.size, .ref a])) rfl (by rw [hml]; rfl) c10 (argsL := [.ref s.heap.size, .int (Int32.ofNat N.slots.size)]) (rest := [.ref a]) rfl rfl (by show 2 * 0 + (1 + 0) ≤ _; decide) (hb hbytes d45) (⟨rfl, n1⟩)
  obtain ⟨rfl, q11⟩ := E11
  have hB11 := hB1.mv (X8.warmed.alike.symm.trans X11.warmed.alike) q11
  have c12 : Steps p.tables e below (s₁.setTop (entryFrame m #[.ref a, .ref b, .int (Int32.ofNat o), .int (Int32.ofNat len), .null] 6)) (T11.setTop (mkF m 48 #[.val (.ref a), .val (.ref b), .val (.int (Int32.ofNat o)), .val (.int (Int32.ofNat len)), .val .null, .val (.ref s.heap.size)] [.int 0, .ref a])) := g11
  obtain ⟨T13, X13, p13, bl13, sl13, st13⟩ := X11.finit hexec hown (wk W (.fieldLink "java/lang/String" 15 "java/lang/String" "coder" "B")) (Or.inr ⟨_, (wk W (.laysFinal "java/lang/String" "java/lang/String" "coder" "B"))⟩) (Or.inl ⟨rfl, hnm⟩) f2 (Or.inl rfl) hB11 (t := .byte) (by decide +kernel) rfl (g := (mkF m 48 #[.val (.ref a), .val (.ref b), .val (.int (Int32.ofNat o)), .val (.int (Int32.ofNat len)), .val .null, .val (.ref s.heap.size)] [.int 0, .ref a])) rfl (rest := []) rfl (hb hbytes d48)
  have c14 : Steps p.tables e below (s₁.setTop (entryFrame m #[.ref a, .ref b, .int (Int32.ofNat o), .int (Int32.ofNat len), .null] 6)) (T13.setTop (mkF m 54 #[.val (.ref a), .val (.ref b), .val (.int (Int32.ofNat o)), .val (.int (Int32.ofNat len)), .val .null, .val (.ref s.heap.size)] [.ref s.heap.size, .ref a])) := (c12.trans (st13 _ (Steps.refl _))).trans (by
    refine XS.aloadN X13.here hexec rfl (hb hbytes d51) rfl rfl ?_
    refine XS.aload X13.here hexec rfl (hb hbytes d52) rfl rfl ?_
    exact Steps.refl _)
  obtain ⟨T15, X15, p15, bl15, sl15, st15⟩ := X13.finit hexec hown (wk W (.fieldLink "java/lang/String" 9 "java/lang/String" "value" "[B")) (Or.inr ⟨_, (wk W (.laysFinal "java/lang/String" "java/lang/String" "value" "[B"))⟩) (Or.inl ⟨rfl, hnm⟩) f1 (Or.inl rfl) bl13 (t := (.array .byte)) (by decide +kernel) rfl (g := (mkF m 54 #[.val (.ref a), .val (.ref b), .val (.int (Int32.ofNat o)), .val (.int (Int32.ofNat len)), .val .null, .val (.ref s.heap.size)] [.ref s.heap.size, .ref a])) rfl (rest := []) rfl (hb hbytes d54)
  have c16 : Steps p.tables e below (s₁.setTop (entryFrame m #[.ref a, .ref b, .int (Int32.ofNat o), .int (Int32.ofNat len), .null] 6)) (T15.setTop (mkF m 57 #[.val (.ref a), .val (.ref b), .val (.int (Int32.ofNat o)), .val (.int (Int32.ofNat len)), .val .null, .val (.ref s.heap.size)] [])) := c14.trans (st15 _ (Steps.refl _))
  have ap := apart (Or.inr ⟨_, (wk W (.laysFinal "java/lang/String" "java/lang/String" "value" "[B"))⟩) (Or.inr ⟨_, (wk W (.laysFinal "java/lang/String" "java/lang/String" "coder" "B"))⟩) f1 f2 (t₁ := .array .byte) (t₂ := .byte) (by decide +kernel) (by decide +kernel) (by decide)
  have al := X8.warmed.alike.symm.trans X15.warmed.alike
  have n7 : T11.heap[s.heap.size]? = some N := by rw [q11]; exact n1.1
  exact ⟨T15, none, _, _, _, X15, by simp, rfl, by omega, (fun _ => rfl), ⟨rfl, _, N, bl15, ((Same.refl D _).set _ (by simp)).set _ (by simp), sl15, (Cell.slots_setSlot_ne _ ap).trans sl13, n1.keep al (p15.other hne (p13.other hne n7)), n2, by rw [al.findClass]; exact n3, n4, n5, fun y c h1 h2 => p15.other h1 (p13.other h1 (by rw [q11]; exact n6 y c h2)), by rw [p15.2.2, p13.2.2, q11]; exact z8⟩, fun fs hl => c16.trans (X15.returnOut hexec hret (hb hbytes d57) hl)⟩
end New4
namespace New1
def yN : MethodName := ⟨"java/lang/String", "<init>", "([C)V"⟩
abbrev yB : ByteArray := jdk_42_method_3_code
theorem d0 : decode yB 0 = .ok (.aload_n 0, 1) := by decide +kernel
theorem d1 : decode yB 1 = .ok (.aload_n 1, 1) := by decide +kernel
theorem d2 : decode yB 2 = .ok (.iconst 0, 1) := by decide +kernel
theorem d3 : decode yB 3 = .ok (.aload_n 1, 1) := by decide +kernel
theorem d4 : decode yB 4 = .ok (.arraylength, 1) := by decide +kernel
theorem d5 : decode yB 5 = .ok (.aconst_null, 1) := by decide +kernel
theorem d6 : decode yB 6 = .ok (.invokespecial 27, 3) := by decide +kernel
theorem d9 : decode yB 9 = .ok (.return_, 1) := by decide +kernel
def site : List Cond := [New4.tab] ++ initW "java/lang/String" 27 New4.yN
def tab : Cond := tabOf yN yB 2 none site
def P (a : Addr) (D : Cell) (fV fC : Field) (b : Addr) (A : Cell) (z : Int32) (args : Array Value) (s : State) : Prop := args = #[.ref a, .ref b] ∧ Blank "java/lang/String" a D s ∧ Found "java/lang/String" "value" "[B" fV s ∧ Found "java/lang/String" "coder" "B" fC s ∧ Ch b A s ∧ StaticIs s "java/lang/String" "COMPACT_STRINGS" "Z" (.int z) ∧ ¬ z = 0 ∧ 0 < A.slots.size ∧ A.slots.size ≤ 536870912 ∧ ∀ i, i < A.slots.size → ¬ 255 < cv A i
def E (a : Addr) (D : Cell) (fV fC : Field) (A : Cell) (r : Option Value) (s u : State) : Prop := Got a D fV fC A 0 A.slots.size r s u
/-- new String(chars), not empty, no char above 255: a Latin-1 String of their low bytes -/
theorem law (l : Launch) (a : Addr) (D : Cell) (fV fC : Field) (b : Addr) (A : Cell) (z : Int32) : Law l yN 2 1 3 52 yB 2 none site (P a D fV fC b A z) (E a D fV fC A) [⟨a, fC.slot⟩, ⟨a, fV.slot⟩] 1 A.slots.size := by
  refine Law.of_walk (plainFor_of_name (by decide +kernel)) (by decide +kernel) (by decide +kernel) (by decide) (fun _ _ h => by rw [h.1]; rfl) (fun _ U U' hal hh h => ⟨h.1, h.2.1.mv hal hh, h.2.2.1.al hal, h.2.2.2.1.al hal, h.2.2.2.2.1.mv hal hh, h.2.2.2.2.2.1.there hal hh, h.2.2.2.2.2.2⟩) (fun r U U' V V' h1 hal h2 h => Got.mv r U U' V V' h1 hal h2 h) ?_
  intro p e s m args below meth c s₁ X0 hexec hbytes hml hret hlk hnm hown hh0 W hP
  obtain ⟨rfl, hB, f1, f2, hA, s1, hz, l0, l2, hp⟩ := hP
  have c1 : Steps p.tables e below (s₁.setTop (entryFrame m #[.ref a, .ref b] 2)) (s₁.setTop (mkF m 0 #[.val (.ref a), .val (.ref b)] [])) := entry rfl
  have c2 : Steps p.tables e below (s₁.setTop (entryFrame m #[.ref a, .ref b] 2)) (s₁.setTop (mkF m 6 #[.val (.ref a), .val (.ref b)] [.null, .int (Int32.ofNat A.slots.size), .int 0, .ref b, .ref a])) := c1.trans (by
    refine XS.aloadN X0.here hexec rfl (hb hbytes d0) rfl rfl ?_
    refine XS.aloadN X0.here hexec rfl (hb hbytes d1) rfl rfl ?_
    refine iconstV X0.here hexec rfl 0 (hb hbytes d2) (by decide) ?_
    refine XS.aloadN X0.here hexec rfl (hb hbytes d3) rfl rfl ?_
    refine X0.alen hexec (hA.1.mv X0.warmed.alike hh0) rfl rfl (hb hbytes d4) ?_
    refine XS.aconstNull X0.here hexec rfl (hb hbytes d5) ?_
    exact Steps.refl _)
  obtain ⟨v3, T3, X3, E3, g3⟩ := X0.callN hexec (New4.law l a D fV fC b A z 0 A.slots.size) rfl hown (wks W (initW "java/lang/String" 27 New4.yN)) (W New4.tab (by simp only [site, List.mem_cons, List.mem_append, true_or, or_true])) (W := 0) (Nat.le_of_ble_eq_true rfl) (Nat.le_of_ble_eq_true rfl) (Nat.le_refl _) (by show 0 + A.slots.size ≤ A.slots.size; omega) (g := (mkF m 6 #[.val (.ref a), .val (.ref b)] [.null, .int (Int32.ofNat A.slots.size), .int (Int32.ofNat 0), .ref b, .ref a])) rfl (by rw [hml]; rfl) c2 (argsL := [.ref b, .int (Int32.ofNat 0), .int (Int32.ofNat A.slots.size), .null]) (rest := []) rfl rfl (by show 2 * 0 + 0 ≤ _; decide) (hb hbytes d6) (⟨rfl, hB.mv X0.warmed.alike hh0, f1.al X0.warmed.alike, f2.al X0.warmed.alike, hA.mv X0.warmed.alike hh0, s1.there X0.warmed.alike hh0, hz, l0, by omega, l2, fun i hi => by rw [Nat.zero_add]; exact hp i hi⟩)
  have e0 := Got.mv _ s₁ s _ _ hh0.symm (Vm.Alike.refl _) rfl E3
  obtain rfl := e0.1
  have c4 : Steps p.tables e below (s₁.setTop (entryFrame m #[.ref a, .ref b] 2)) (T3.setTop (mkF m 9 #[.val (.ref a), .val (.ref b)] [])) := g3
  exact ⟨T3, none, _, _, _, X3, by simp, rfl, by omega, (fun _ => rfl), e0, fun fs hl => c4.trans (X3.returnOut hexec hret (hb hbytes d9) hl)⟩
theorem pays {l : Launch} {R : Room} {p : Program} {e : Env} {below : List Frame} {s : State} {sargs : Array Value} {len W : Nat} (a : Addr) (D : Cell) (fV fC : Field) (b : Addr) (A : Cell) (z : Int32) (htab : tab.before sargs s = true) (hfr : 4 ≤ R.frames) (hlo : W + 65 ≤ R.locals) :
    Back l R p e below s sargs yN len W (fun A₁ a₁ => A₁.cells + 1 ≤ R.cells ∧ A₁.slots + A.slots.size ≤ R.slots ∧ P a D fV fC b A z a₁ A₁.U) (fun A₁ _ v₁ B₁ => E a D fV fC A v₁ A₁.U B₁.U ∧ B₁.locs = A₁.locs ++ [⟨a, fC.slot⟩, ⟨a, fV.slot⟩] ∧ B₁.cells = A₁.cells + 1 ∧ B₁.slots = A₁.slots + A.slots.size) :=
  (law l a D fV fC b A z).pays htab hfr (by omega)
end New1
end StrChars
namespace StrChars.Road
open Jvm Sem ClassFile Op Lib Jvm.Stand Jvm.Free Jvm.Free.XT
open Jvm.Lib.Cold (StaticIs)
abbrev ST : String := "java/lang/String"
/-- every table word that New1's law asks, flat -/
abbrev words : List Jvm.Cond := [.code New1.yN New1.yB 2 none, .initialized ST, .methodLink ST 27 New4.yN, .instanceMethod New4.yN,
  .code New4.yN New4.yB 6 none, .fieldLink ST 38 ST "COMPACT_STRINGS" "Z", .laysFinal ST ST "value" "[B", .fieldLink ST 9 ST "value" "[B", .laysFinal ST ST "coder" "B", .fieldLink ST 15 ST "coder" "B",
  .methodLink ST 1 Lib.objectInit, .instanceMethod Lib.objectInit, .code Lib.objectInit ⟨#[0xb1]⟩ 1 none, .methodLink ST 177 Cmp3.yN, .static Cmp3.yN, .methodLink ST 47 CodL.yN, .static CodL.yN,
  .code Cmp3.yN Cmp3.yB 6 (some (.array .byte)), .initialized U16, .arrayClass .byte, .methodLink U16 115 Cmp5.yN, .static Cmp5.yN, .code Cmp5.yN Cmp5.yB 7 (some .int), .code CodL.yN CodL.yB 2 (some .byte)]
theorem tab_of {a : Array Value} {s : State} (h : ∀ w ∈ words, w.before a s = true) : New1.tab.before a s = true := by
  have h5 : Cmp5.tab.before a s = true := unparts (wk h (.code Cmp5.yN Cmp5.yB 7 (some .int))) (wks h (.initialized Cmp5.yN.cls :: Cmp5.site))
  have hc : CodL.tab.before a s = true := unparts (wk h (.code CodL.yN CodL.yB 2 (some .byte))) (wks h (.initialized CodL.yN.cls :: CodL.site))
  have q5 : ∀ w ∈ Cmp5.tab :: words, w.before a s = true := fun w hw => (List.mem_cons.mp hw).elim (fun e => e ▸ h5) (h w)
  have h3 : Cmp3.tab.before a s = true := unparts (wk q5 (.code Cmp3.yN Cmp3.yB 6 (some (.array .byte)))) (wks q5 (.initialized Cmp3.yN.cls :: Cmp3.site))
  have q3 : ∀ w ∈ Cmp3.tab :: CodL.tab :: words, w.before a s = true := fun w hw => (List.mem_cons.mp hw).elim (fun e => e ▸ h3) fun hw => (List.mem_cons.mp hw).elim (fun e => e ▸ hc) (h w)
  have h4 : New4.tab.before a s = true := unparts (wk q3 (.code New4.yN New4.yB 6 none)) (wks q3 (.initialized New4.yN.cls :: New4.site))
  have q4 : ∀ w ∈ New4.tab :: words, w.before a s = true := fun w hw => (List.mem_cons.mp hw).elim (fun e => e ▸ h4) (h w)
  exact unparts (wk q4 (.code New1.yN New1.yB 2 none)) (wks q4 (.initialized New1.yN.cls :: New1.site))
/-- the words ride from the start Z to the walk's own state -/
theorem moved {Z s : State} {a0 args : Array Value} (hZ : Z.Warmed39 s.vm) (hw : ∀ d ∈ words, d.before a0 Z = true) : ∀ d ∈ words, d.before args s = true := fun d hd => by
  have q := hw d hd
  have t : ∀ d ∈ words, d = .arrayClass .byte ∨ (d.onTables && d.keepsFace) = true := by decide +kernel
  rcases t d hd with rfl | t
  · exact RoadKit.mvA hZ q
  · exact RoadKit.mv hZ q t
/-- WHAT COMES BACK, over the tables of the start Z: h the heap at the call, h' behind it -/
def Q (Z : State) (x : Addr) (A : Cell) (h : Heap) (v : Option Value) (h' : Heap) (L : List Loc) : Prop := v = none ∧ (∀ y ∈ L, y.base = x) ∧ RoadKit.Keep h h' [x] ∧ h'.size = h.size + 1 ∧ RoadKit.Exa Z h' x ST ∧ RoadKit.Fld Z h' x ST "value" "[B" (.ref h.size) ∧ RoadKit.Fld Z h' x ST "coder" "B" (.int 0) ∧
  (∃ V : Cell, RoadKit.Arr Z h' h.size V .byte ∧ V.vm = .none ∧ Z.vm.findClass "[B" = some V.cls ∧ V.slots.size = A.slots.size ∧ ∀ j, j < A.slots.size → V.slots[j]? = some (.int (lo8 (cv A j)))) ∧
  ∀ (O n d : String) (w : Value), RoadKit.Fld Z h x O n d w → RoadKit.slotOf Z O n d ≠ RoadKit.slotOf Z ST "value" "[B" → RoadKit.slotOf Z O n d ≠ RoadKit.slotOf Z ST "coder" "B" → RoadKit.Fld Z h' x O n d w
/-- **new String(chars) AT A CALL, IN THE ROAD'S FORM**: for specialBack behind newO: x the fresh String, b the char[] with the cell A -/
theorem back {p : Program} {l : Launch} {e : Env} {R : Room} {s : State} {args : Array Value} {below : List Frame} {len W : Nat} {Z : State} {a0 : Array Value} {h : Heap} (hZ : Z.Warmed39 s.vm) (hw : ∀ d ∈ words, d.before a0 Z = true) {kI : Nat} (wi : (Jvm.Cond.instantiable ST kI).before a0 Z = true)
    {x b : Addr} {A : Cell} {z : Int32} {v0 c0 : Value} (E : RoadKit.Exa Z h x ST) (V : RoadKit.Fld Z h x ST "value" "[B" v0) (C : RoadKit.Fld Z h x ST "coder" "B" c0) (K : RoadKit.Arr Z h b A .char) (hty : Typed .char A) (S : RoadKit.Sta Z h ST "COMPACT_STRINGS" "Z" (.int z)) (hz : ¬ z = 0)
    (l0 : 0 < A.slots.size) (l2 : A.slots.size ≤ 536870912) (hp : ∀ i, i < A.slots.size → ¬ 255 < cv A i) (hfr : 4 ≤ R.frames) (hlo : W + 65 ≤ R.locals) :
    Back l R p e below s args New1.yN len W (fun P a => a = #[.ref x, .ref b] ∧ P.U.heap = h ∧ P.cells + 1 ≤ R.cells ∧ P.slots + A.slots.size ≤ R.slots)
      (fun P _ v B => ∃ L, Q Z x A h v B.U.heap L ∧ B.locs = P.locs ++ L ∧ B.cells = P.cells + 1 ∧ B.slots = P.slots + A.slots.size) := by
  intro m meth c P g ig mk a X hg hsize hdg hW hn hp'
  obtain ⟨rfl, rfl, r1, r2⟩ := hp'
  have al : Z.vm.Alike P.U.vm := hZ.alike.trans X.warmed.alike
  obtain ⟨D, cfV, kV, iV, fV, hD, gV, stV, knV, obV, asV, slV⟩ := id V
  obtain ⟨D', cfC, kC, iC, fC, hD', gC, stC, -, -, asC, slC⟩ := id C
  cases hD.symm.trans hD'
  obtain ⟨D2, kD, e1, e2, e3, e4, e5⟩ := id E
  cases hD.symm.trans e1
  obtain ⟨c2, k2, i1, i2, i3, -⟩ := Cond.instantiable_spec wi
  cases e2.symm.trans i1
  cases e3.symm.trans i2
  obtain ⟨kU, u1, u2⟩ := al.2.2 _ _ e3
  have hB : Blank ST x D P.U := ⟨hD, ⟨knV, fun q hq => by rw [hq] at obV; cases obV⟩, by rw [al.findClass]; exact e2, kU, u1, by rw [u2]; exact i3, by rw [u2]; exact e5 i3⟩
  have F1 : Found ST "value" "[B" fV P.U := ⟨SBG.found_only al ⟨cfV, kV, iV, gV⟩, stV⟩
  have F2 : Found ST "coder" "B" fC P.U := ⟨SBG.found_only al ⟨cfC, kC, iC, gC⟩, stC⟩
  have hA : Ch b A P.U := ⟨⟨K.1, State.isArrayOf_alike al K.2.1, K.2.2, by omega⟩, hty⟩
  have hS : StaticIs P.U ST "COMPACT_STRINGS" "Z" (.int z) := by
    obtain ⟨cfS, iS, kS, fS, st, cS, t1, t2, t3, t4, t5, t6, t7⟩ := S
    exact StaticIs.there (s := { Z with heap := P.U.heap }) ⟨cfS, iS, kS, fS, st, cS, t1, t2, t3, t4, t5, (fun q => by rw [q] at t6; cases t6), t7⟩ al rfl
  obtain ⟨v, B, X', ⟨⟨hv, E', V', q1, q2, q3, q4, q5, q6, q7, q8, q9, q10, q11⟩, hl, hc, hs⟩, st⟩ := New1.pays x D fV fC b A z (tab_of (moved hZ hw)) hfr hlo m meth c P g ig mk _ X hg hsize hdg hW hn ⟨r1, r2, rfl, hB, F1, F2, hA, hS, hz, l0, l2, hp⟩
  have al' : Z.vm.Alike B.U.vm := hZ.alike.trans X'.warmed.alike
  have hsz : E'.slots.size = D.slots.size := by
    obtain ⟨-, -, -, kB, w1, w2, w3⟩ := q1
    obtain ⟨kB', y1, y2⟩ := al'.2.2 _ _ e3
    rw [q2.2.1] at w1
    cases w1.symm.trans y1
    rw [w3, e5 i3, y2]
  refine ⟨v, B, X', ⟨_, ⟨hv, ?_, ⟨by omega, fun y cy hy hn' => q10 y cy (by simpa using hn') hy, fun y cy hy => ?_⟩, q11, ⟨E', _, q1.1, by rw [q2.2.1]; exact e2, by rw [q2.2.1]; exact e3, by rw [q2.1]; exact obV, fun _ => by rw [hsz]; exact e5 i3⟩,
    ⟨E', cfV, kV, iV, fV, q1.1, gV, stV, by rw [q2.1]; exact knV, by rw [q2.1]; exact obV, by rw [q2.2.1]; exact asV, q3⟩, ⟨E', cfC, kC, iC, fC, q1.1, gC, stC, by rw [q2.1]; exact knV, by rw [q2.1]; exact obV, by rw [q2.2.1]; exact asC, q4⟩,
    ⟨V', ⟨q5.1, State.isArrayOf_alike al'.symm q5.2.1, q5.2.2.1⟩, q6, by rw [← al'.findClass]; exact q7, q8, fun j hj => by have := q9 j hj; rwa [Nat.zero_add] at this⟩, fun O n d w F n1 n2 => ?_⟩, hl, hc, hs⟩, st⟩
  · intro y hy
    simp only [List.mem_cons, List.not_mem_nil, or_false] at hy
    rcases hy with rfl | rfl <;> rfl
  · by_cases q : y = x
    · subst q
      cases hD.symm.trans hy
      exact ⟨E', q1.1, q2.2.1, q2.1, hsz⟩
    · exact ⟨cy, q10 y cy q hy, rfl, rfl, rfl⟩
  · obtain ⟨D3, cf, k, i, f, g1, g2, g3, g4, g5, g6, g7⟩ := F
    cases hD.symm.trans g1
    simp only [RoadKit.slotOf, g2, gV, gC, Option.map_some, Option.getD_some] at n1 n2
    exact ⟨E', cf, k, i, f, q1.1, g2, g3, by rw [q2.1]; exact g4, by rw [q2.1]; exact g5, by rw [q2.2.1]; exact g6, by rw [q2.2.2 f.slot (by simp [n1, n2])]; exact g7⟩
end StrChars.Road
namespace StrChars.Road
open Jvm Sem ClassFile Op Lib Jvm.Stand Jvm.Free Jvm.Free.XT
/-- WHAT COMES BACK, the byte[] as a list of values -/
def QA (Z : State) (x : Addr) (zn : Int32) (cs : List Int32) (h : Heap) (v : Option Value) (h' : Heap) (L : List Loc) : Prop := v = none ∧ (∀ y ∈ L, y.base = x) ∧ RoadKit.Keep h h' [x] ∧ h'.size = h.size + 1 ∧ RoadKit.Exa Z h' x ST ∧ RoadKit.Fld Z h' x ST "value" "[B" (.ref h.size) ∧ RoadKit.Fld Z h' x ST "coder" "B" (.int 0) ∧
  (∃ kb, Z.vm.findClass "[B" = some kb ∧ RoadKit.Arv Z h' h.size kb .byte zn (cs.map fun c => .int (lo8 c)) (.int 0)) ∧
  ∀ (O n d : String) (w : Value), RoadKit.Fld Z h x O n d w → RoadKit.slotOf Z O n d ≠ RoadKit.slotOf Z ST "value" "[B" → RoadKit.slotOf Z O n d ≠ RoadKit.slotOf Z ST "coder" "B" → RoadKit.Fld Z h' x O n d w
/-- **new String(chars) AT A CALL, THE ARRAYS AS LISTS**: the char[] at b holds cs, not empty, no char above 255 -/
theorem backArv {p : Program} {l : Launch} {e : Env} {R : Room} {s : State} {args : Array Value} {below : List Frame} {len W : Nat} {Z : State} {a0 : Array Value} {h : Heap} (hZ : Z.Warmed39 s.vm) (hw : ∀ d ∈ words, d.before a0 Z = true) {kI : Nat} (wi : (Jvm.Cond.instantiable ST kI).before a0 Z = true)
    {x b : Addr} {k : ClassId} {zn z : Int32} {cs : List Int32} {dv v0 c0 : Value} (E : RoadKit.Exa Z h x ST) (V : RoadKit.Fld Z h x ST "value" "[B" v0) (C : RoadKit.Fld Z h x ST "coder" "B" c0) (K : RoadKit.Arv Z h b k .char zn (cs.map Value.int) dv) (S : RoadKit.Sta Z h ST "COMPACT_STRINGS" "Z" (.int z)) (hz : ¬ z = 0)
    (hlen : zn.toNatClampNeg = cs.length) (h0 : 0 < cs.length) (hbig : cs.length ≤ 536870912) (hall : ∀ c ∈ cs, ¬ 255 < c) (hfr : 4 ≤ R.frames) (hlo : W + 65 ≤ R.locals) :
    Back l R p e below s args New1.yN len W (fun P a => a = #[.ref x, .ref b] ∧ P.U.heap = h ∧ P.cells + 1 ≤ R.cells ∧ P.slots + cs.length ≤ R.slots)
      (fun P _ v B => ∃ L, QA Z x zn cs h v B.U.heap L ∧ B.locs = P.locs ++ L ∧ B.cells = P.cells + 1 ∧ B.slots = P.slots + cs.length) := by
  obtain ⟨A, K1, K2, K3, K4, K5, K6⟩ := K
  have e : A.slots.size = cs.length := K3.trans hlen
  have hat : ∀ (i : Nat) (hi : i < cs.length), A.slots[i]? = some (.int cs[i]) := fun i hi => by rw [K5 i (by omega)]; simp [List.getD_eq_getElem?_getD, hi]
  have hcv : ∀ (i : Nat) (hi : i < cs.length), cv A i = cs[i] := fun i hi => by unfold cv; rw [hat i hi]
  have hty : Typed .char A := fun i v hv => by
    have hi : i < A.slots.size := (Array.getElem?_eq_some_iff.mp hv).1
    have q := K5 i hi
    rw [hv] at q
    rw [Option.some.inj q]
    exact K6 i hi
  refine Back.mono (back hZ hw wi E V C K1 hty S hz (by omega) (by omega) (fun i hi => by rw [hcv i (by omega)]; exact hall _ (List.getElem_mem _)) hfr hlo) (fun P a hp => ⟨hp.1, hp.2.1, hp.2.2.1, by rw [e]; exact hp.2.2.2⟩) (fun P a v B hp hq => ?_)
  obtain ⟨L, ⟨q1, q2, q3, q4, q5, q6, q7, ⟨V', v1, v2, v3, v4, v5⟩, q9⟩, hl, hc, hs⟩ := hq
  refine ⟨L, ⟨q1, q2, q3, q4, q5, q6, q7, ⟨V'.cls, v3, V', v1, rfl, by rw [v4, e, hlen], K4, fun i hi => ?_, fun i hi => ?_⟩, q9⟩, hl, hc, by rw [hs, e]⟩
  · have hi' : i < cs.length := by omega
    rw [v5 i (by omega), hcv i hi']; simp [List.getD_eq_getElem?_getD, hi']
  · have hi' : i < cs.length := by omega
    simp only [List.getD_eq_getElem?_getD, List.getElem?_map, List.getElem?_eq_getElem hi', Option.map_some, Option.getD_some]
    exact fits_lo8 _
end StrChars.Road
namespace StrChars.Road
open Jvm Sem ClassFile Op Lib Jvm.Stand Jvm.Free Jvm.Free.XT
/-- WHAT COMES BACK, in the writer's own shape -/
def QV (Z : State) (x : Addr) (N : Int32) (bs : List Int32) (h : Heap) (n0 : Nat) (v : Option Value) (h' : Heap) (L : List Loc) : Prop := v = none ∧ RoadKit.Fr n0 L ∧ RoadKit.Keep h h' [x] ∧ RoadKit.Exa Z h' x ST ∧ RoadKit.Fld Z h' x ST "coder" "B" (.int 0) ∧
  ∃ (t : Addr) (kb : ClassId), n0 ≤ t ∧ h.size ≤ t ∧ ¬ t = x ∧ RoadKit.Fld Z h' x ST "value" "[B" (.ref t) ∧ RoadKit.Arv Z h' t kb .byte N (bs.map Value.int) (.int 0)
/-- **new String(chars) AT A CALL, FOR THE WRITER**: a char[] of n known ints, each 0 to 255 -/
theorem backV {p : Program} {l : Launch} {e : Env} {R : Room} {s : State} {args : Array Value} {below : List Frame} {len W : Nat} {Z : State} {a0 : Array Value} {h : Heap} (hZ : Z.Warmed39 s.vm) (hw : ∀ d ∈ words, d.before a0 Z = true) {kI : Nat} (wi : (Jvm.Cond.instantiable ST kI).before a0 Z = true)
    {x b : Addr} {kC : ClassId} {cs bs : List Int32} {d v0 c0 : Value} {z N : Int32} {n n0 : Nat} (hx0 : n0 ≤ x) (hh0 : n0 ≤ h.size) (E : RoadKit.Exa Z h x ST) (V : RoadKit.Fld Z h x ST "value" "[B" v0) (C : RoadKit.Fld Z h x ST "coder" "B" c0) (K : RoadKit.Arv Z h b kC .char N (cs.map Value.int) d) (S : RoadKit.Sta Z h ST "COMPACT_STRINGS" "Z" (.int z)) (hz : ¬ z = 0)
    (hn : cs.length = n) (hN : N = Int32.ofNat n) (l0 : 0 < n) (l2 : n ≤ 4000) (hp : ∀ c ∈ cs, ¬ c < 0 ∧ ¬ (255 : Int32) < c) (hb : bs = cs.map (fun c => c.toInt8.toInt32)) (hfr : 4 ≤ R.frames) (hlo : W + 65 ≤ R.locals) :
    Back l R p e below s args (⟨"java/lang/String", "<init>", "([C)V"⟩ : MethodName) len W (fun P a => a = #[.ref x, .ref b] ∧ P.U.heap = h ∧ P.cells + 1 ≤ R.cells ∧ P.slots + n ≤ R.slots)
      (fun P _ v B => ∃ L, QV Z x N bs h n0 v B.U.heap L ∧ B.locs = P.locs ++ L ∧ B.cells = P.cells + 1 ∧ B.slots = P.slots + n) := by
  subst hn hN hb
  refine Back.mono (backArv hZ hw wi E V C K S hz (n32 (by omega)) l0 (by omega) (fun c hc => (hp c hc).2) hfr hlo) (fun P a hp => hp) (fun P a v B hp hq => ?_)
  obtain ⟨L, ⟨q1, q2, q3, q4, q5, q6, q7, ⟨kb, v1, v2⟩, q9⟩, hl, hc, hs⟩ := hq
  exact ⟨L, ⟨q1, fun y hy => by rw [q2 y hy]; exact hx0, q3, q5, q7, h.size, kb, hh0, Nat.le_refl _, Nat.ne_of_gt E.lt, q6, by rw [List.map_map]; exact v2⟩, hl, hc, hs⟩
end StrChars.Road
namespace StrChars
open Jvm Sem ClassFile Op Lib Jvm.Stand Jvm.Free.XT Jvm.Free.ALB Jvm.Free.JM Jvm.Free
open Jvm.Lib.Cold (StaticIs)
def hi8 (x : Int32) : Int32 := lo8 (x >>> ((8 : Int32) &&& 31))
theorem shr0 (c : Int32) : c >>> ((0 : Int32) &&& 31) = c := by
  have e : ((0 : Int32) &&& 31) = 0 := by decide
  rw [e]
  apply Int32.toBitVec_inj.mp
  rw [Int32.toBitVec_shiftRight]
  have e1 : ((0 : Int32).toBitVec.smod 32) = 0#32 := by decide
  rw [e1, BitVec.sshiftRight_eq']
  exact BitVec.sshiftRight_zero
end StrChars
namespace StrChars
open Jvm Sem ClassFile Op Lib Jvm.Stand Jvm.Free.XT Jvm.Free.ALB Jvm.Free.JM Jvm.Free
open Jvm.Lib.Cold (StaticIs)
theorem shr1 {n : Nat} (h : 2 * n < 2 ^ 31) : Int32.ofNat (2 * n) >>> ((1 : Int32) &&& 31) = Int32.ofNat n := by
  have e : ((1 : Int32) &&& 31) = 1 := by decide
  rw [e]
  apply Int32.toBitVec_inj.mp
  rw [Int32.toBitVec_shiftRight]
  have e1 : ((1 : Int32).toBitVec.smod 32) = 1#32 := by decide
  have hm : (BitVec.ofNat 32 (2 * n)).toNat = 2 * n := by rw [BitVec.toNat_ofNat, Nat.mod_eq_of_lt (by omega)]
  rw [e1, BitVec.sshiftRight_eq']
  apply BitVec.eq_of_toNat_eq
  show ((BitVec.ofNat 32 (2 * n)).sshiftRight 1).toNat = (BitVec.ofNat 32 n).toNat
  rw [BitVec.toNat_sshiftRight_of_msb_false (by rw [BitVec.msb_eq_false_iff_two_mul_lt, hm]; omega), hm, BitVec.toNat_ofNat, Nat.shiftRight_eq_div_pow]
  omega
/-- the array's cell V codes the n chars f 0 .. f (n - 1) by the coder cd, as the JDK does: coder 1 just where some char is above 255 -/
def Cod (cd : Int32) (n : Nat) (f : Nat → Int32) (V : Cell) : Prop := (cd = 0 ∧ V.slots.size = n ∧ ∀ j, j < n → V.slots[j]? = some (.int (lo8 (f j))) ∧ ¬ 255 < f j) ∨ (cd = 1 ∧ V.slots.size = 2 * n ∧ (∀ j, j < n → V.slots[2 * j]? = some (.int (lo8 (f j))) ∧ V.slots[2 * j + 1]? = some (.int (hi8 (f j)))) ∧ ∃ j, j < n ∧ 255 < f j)
theorem Cod.cd {cd : Int32} {n : Nat} {f : Nat → Int32} {V : Cell} (h : Cod cd n f V) : cd = 0 ∨ cd = 1 := h.imp (fun q => q.1) fun q => q.1
theorem Cod.len {cd : Int32} {n : Nat} {f : Nat → Int32} {V : Cell} (h : Cod cd n f V) (hs : V.slots.size < 2 ^ 31) : Int32.ofNat V.slots.size >>> (cd &&& 31) = Int32.ofNat n := by
  rcases h with ⟨rfl, h, -⟩ | ⟨rfl, h, -⟩
  · rw [shr0, h]
  · rw [h, shr1 (by omega)]
/-- **x is a String of the n chars f 0 .. f (n - 1)**, Latin-1 or UTF-16; its array at t has the cell V -/
def Txt (x t : Addr) (V : Cell) (cd : Int32) (n : Nat) (f : Nat → Int32) (U : State) : Prop := Exact "java/lang/String" x U ∧ Has x "java/lang/String" "value" "[B" (.ref t) U ∧ Has x "java/lang/String" "coder" "B" (.int cd) U ∧ XT.Arr .byte t V U ∧ Cod cd n f V ∧ ∀ j, j < n → ¬ f j < 0 ∧ ¬ 65535 < f j
theorem Txt.mv {x t : Addr} {V : Cell} {cd : Int32} {n : Nat} {f : Nat → Int32} {U U' : State} (h : Txt x t V cd n f U) (hal : U.vm.Alike U'.vm) (hh : U'.heap = U.heap) : Txt x t V cd n f U' := ⟨h.1.mv hal hh, h.2.1.mv hal hh, h.2.2.1.mv hal hh, h.2.2.2.1.mv hal hh, h.2.2.2.2⟩
namespace Cdr
def yN : MethodName := ⟨"java/lang/String", "coder", "()B"⟩
abbrev yB : ByteArray := jdk_42_method_152_code
theorem d0 : decode yB 0 = .ok (.getstatic 38, 3) := by decide +kernel
theorem d3 : decode yB 3 = .ok (.ifCond (.eq) 10, 3) := by decide +kernel
theorem d6 : decode yB 6 = .ok (.aload_n 0, 1) := by decide +kernel
theorem d7 : decode yB 7 = .ok (.getfield 15, 3) := by decide +kernel
theorem d10 : decode yB 10 = .ok (.goto 4, 3) := by decide +kernel
theorem d14 : decode yB 14 = .ok (.ireturn, 1) := by decide +kernel
def site : List Cond := [.fieldLink "java/lang/String" 38 "java/lang/String" "COMPACT_STRINGS" "Z", .fieldLink "java/lang/String" 15 "java/lang/String" "coder" "B"]
def tab : Cond := tabOf yN yB 1 (some .byte) site
def P (x : Addr) (cd z : Int32) (args : Array Value) (s : State) : Prop := args = #[.ref x] ∧ Has x "java/lang/String" "coder" "B" (.int cd) s ∧ (cd = 0 ∨ cd = 1) ∧ StaticIs s "java/lang/String" "COMPACT_STRINGS" "Z" (.int z) ∧ ¬ z = 0
def E (cd : Int32) (r : Option Value) (s u : State) : Prop := XT.PureE (some (.int cd)) r s u
theorem law (l : Launch) (x : Addr) (cd z : Int32) : Law l yN 1 0 0 0 yB 1 (some .byte) site (P x cd z) (E cd) [] 0 0 := by
  refine Law.of_walk (plainFor_of_name (by decide +kernel)) (by decide +kernel) (by decide +kernel) (by decide) (fun _ _ h => by rw [h.1]; rfl) (fun _ U U' hal hh h => ⟨h.1, h.2.1.mv hal hh, h.2.2.1, h.2.2.2.1.there hal hh, h.2.2.2.2⟩) (fun r U U' V V' h1 hal h2 h => XT.PureE.mv r U U' V V' h1 hal h2 h) ?_
  intro p e s m args below meth c s₁ X0 hexec hbytes hml hret hlk hnm hown hh0 W hP
  obtain ⟨rfl, hx, hc, s1, hz⟩ := hP
  have c1 : Steps p.tables e below (s₁.setTop (entryFrame m #[.ref x] 1)) (s₁.setTop (mkF m 0 #[.val (.ref x)] [])) := entry rfl
  obtain ⟨T2, X2, q2, st2⟩ := X0.sget hexec hown (wk W (.fieldLink "java/lang/String" 38 "java/lang/String" "COMPACT_STRINGS" "Z")) s1 (fun _ _ h => by rw [hh0]; exact h) (g := (mkF m 0 #[.val (.ref x)] [])) rfl (hb hbytes d0)
  have hh2 := q2.trans hh0
  have c3 : Steps p.tables e below (s₁.setTop (entryFrame m #[.ref x] 1)) (T2.setTop (mkF m 7 #[.val (.ref x)] [.ref x])) := (c1.trans (st2 _ (Steps.refl _))).trans (by
    refine XS.ifNo X2.here hexec rfl (hb hbytes d3) rfl (i0_eq_f hz) ?_
    refine XS.aloadN X2.here hexec rfl (hb hbytes d6) rfl rfl ?_
    exact Steps.refl _)
  obtain ⟨T4, X4, q4, st4⟩ := X2.hget hexec hown (wk W (.fieldLink "java/lang/String" 15 "java/lang/String" "coder" "B")) (hx.mv X2.warmed.alike hh2) (g := (mkF m 7 #[.val (.ref x)] [.ref x])) rfl (rest := []) rfl (hb hbytes d7)
  have c5 : Steps p.tables e below (s₁.setTop (entryFrame m #[.ref x] 1)) (T4.setTop (mkF m 14 #[.val (.ref x)] [.int cd])) := (c3.trans (st4 _ (Steps.refl _))).trans (by
    refine XS.goto X4.here hexec rfl (pc0 := 10) rfl (hb hbytes d10) (by decide) rfl ?_
    exact Steps.refl _)
  exact ⟨T4, some (.int cd), _, _, _, X4, rfl, rfl, rfl, (fun h => by cases h), ⟨rfl, q4.trans hh2⟩, fun fs hl => c5.trans (X4.ireturnOut hexec hret (by rcases hc with rfl | rfl <;> rfl) (Or.inr (Or.inr (Or.inl rfl))) (hb hbytes d14) hl)⟩
end Cdr
namespace Len
def yN : MethodName := ⟨"java/lang/String", "length", "()I"⟩
abbrev yB : ByteArray := jdk_42_method_54_code
theorem d0 : decode yB 0 = .ok (.aload_n 0, 1) := by decide +kernel
theorem d1 : decode yB 1 = .ok (.getfield 9, 3) := by decide +kernel
theorem d4 : decode yB 4 = .ok (.arraylength, 1) := by decide +kernel
theorem d5 : decode yB 5 = .ok (.aload_n 0, 1) := by decide +kernel
theorem d6 : decode yB 6 = .ok (.invokevirtual 335, 3) := by decide +kernel
theorem d9 : decode yB 9 = .ok (.ishr, 1) := by decide +kernel
theorem d10 : decode yB 10 = .ok (.ireturn, 1) := by decide +kernel
def site : List Cond := [.fieldLink "java/lang/String" 9 "java/lang/String" "value" "[B", Cdr.tab] ++ virtW "java/lang/String" 335 "java/lang/String" Cdr.yN Cdr.yN
def tab : Cond := tabOf yN yB 1 (some .int) site
def P (x t : Addr) (V : Cell) (cd : Int32) (n : Nat) (f : Nat → Int32) (z : Int32) (args : Array Value) (s : State) : Prop := args = #[.ref x] ∧ Txt x t V cd n f s ∧ StaticIs s "java/lang/String" "COMPACT_STRINGS" "Z" (.int z) ∧ ¬ z = 0
def E (n : Nat) (r : Option Value) (s u : State) : Prop := XT.PureE (some (.int (Int32.ofNat n))) r s u
/-- length() of a String of n chars, in either coding -/
theorem law (l : Launch) (x t : Addr) (V : Cell) (cd : Int32) (n : Nat) (f : Nat → Int32) (z : Int32) : Law l yN 1 0 1 13 yB 1 (some .int) site (P x t V cd n f z) (E n) [] 0 0 := by
  refine Law.of_walk (plainFor_of_name (by decide +kernel)) (by decide +kernel) (by decide +kernel) (by decide) (fun _ _ h => by rw [h.1]; rfl) (fun _ U U' hal hh h => ⟨h.1, h.2.1.mv hal hh, h.2.2.1.there hal hh, h.2.2.2⟩) (fun r U U' V V' h1 hal h2 h => XT.PureE.mv r U U' V V' h1 hal h2 h) ?_
  intro p e s m args below meth c s₁ X0 hexec hbytes hml hret hlk hnm hown hh0 W hP
  obtain ⟨rfl, hx, s1, hz⟩ := hP
  have v31 := hx.2.2.2.1.2.2.2
  have c1 : Steps p.tables e below (s₁.setTop (entryFrame m #[.ref x] 1)) (s₁.setTop (mkF m 1 #[.val (.ref x)] [.ref x])) := Steps.trans (entry rfl) (by
    show Steps p.tables e below (s₁.setTop (mkF m 0 #[.val (.ref x)] [])) _
    refine XS.aloadN X0.here hexec rfl (hb hbytes d0) rfl rfl ?_
    exact Steps.refl _)
  obtain ⟨T2, X2, q2, st2⟩ := X0.hget hexec hown (wk W (.fieldLink "java/lang/String" 9 "java/lang/String" "value" "[B")) (hx.mv X0.warmed.alike hh0).2.1 (g := (mkF m 1 #[.val (.ref x)] [.ref x])) rfl (rest := []) rfl (hb hbytes d1)
  have hh2 := q2.trans hh0
  have hx2 := hx.mv X2.warmed.alike hh2
  have c3 : Steps p.tables e below (s₁.setTop (entryFrame m #[.ref x] 1)) (T2.setTop (mkF m 6 #[.val (.ref x)] [.ref x, .int (Int32.ofNat V.slots.size)])) := (c1.trans (st2 _ (Steps.refl _))).trans (by
    refine X2.alen hexec hx2.2.2.2.1 rfl rfl (hb hbytes d4) ?_
    refine XS.aloadN X2.here hexec rfl (hb hbytes d5) rfl rfl ?_
    exact Steps.refl _)
  obtain ⟨v4, T4, X4, E4, g4⟩ := X2.callV hexec (Cdr.law l x cd z) hown (wks W (virtW "java/lang/String" 335 "java/lang/String" Cdr.yN Cdr.yN)) rfl (by decide) (wk W Cdr.tab) (W := 1) (Nat.le_of_ble_eq_true rfl) (Nat.le_of_ble_eq_true rfl) (Nat.le_refl _) (Nat.le_refl _) (hx2.1.fc X2.warmed.alike) hx2.1.is (g := (mkF m 6 #[.val (.ref x)] [.ref x, .int (Int32.ofNat V.slots.size)])) rfl (by rw [hml]; rfl) c3 (argsL := []) (rest := [.int (Int32.ofNat V.slots.size)]) rfl rfl (by show 2 * 0 + (1 + 0) ≤ _; decide) (hb hbytes d6) (⟨rfl, hx2.2.2.1, hx.2.2.2.2.1.cd, s1.there X2.warmed.alike hh2, hz⟩)
  obtain ⟨rfl, q4⟩ := E4
  have c5 : Steps p.tables e below (s₁.setTop (entryFrame m #[.ref x] 1)) (T4.setTop (mkF m 10 #[.val (.ref x)] [.int (Int32.ofNat V.slots.size >>> (cd &&& 31))])) := Steps.trans g4 (by
    refine ishr X4.here hexec rfl (hb hbytes d9) rfl ?_
    exact Steps.refl _)
  rw [hx.2.2.2.2.1.len v31] at c5
  exact ⟨T4, some (.int (Int32.ofNat n)), _, _, _, X4, rfl, rfl, rfl, (fun h => by cases h), ⟨rfl, q4.trans hh2⟩, fun fs hl => c5.trans (X4.ireturnOut hexec hret rfl (Or.inl rfl) (hb hbytes d10) hl)⟩
theorem pays {l : Launch} {R : Room} {p : Program} {e : Env} {below : List Frame} {s : State} {sargs : Array Value} {len W : Nat} (x t : Addr) (V : Cell) (cd : Int32) (n : Nat) (f : Nat → Int32) (z : Int32) (htab : tab.before sargs s = true) (hfr : 2 ≤ R.frames) (hlo : W + 25 ≤ R.locals) :
    Back l R p e below s sargs yN len W (fun A₁ a₁ => A₁.cells + 0 ≤ R.cells ∧ A₁.slots + 0 ≤ R.slots ∧ P x t V cd n f z a₁ A₁.U) (fun A₁ _ v₁ B₁ => E n v₁ A₁.U B₁.U ∧ B₁.locs = A₁.locs ++ [] ∧ B₁.cells = A₁.cells + 0 ∧ B₁.slots = A₁.slots + 0) :=
  (law l x t V cd n f z).pays htab hfr (by omega)
end Len
end StrChars
namespace StrChars.Road
open Jvm Sem ClassFile Op Lib Jvm.Stand Jvm.Free Jvm.Free.XT
open Jvm.Lib.Cold (StaticIs)
theorem consq {a : Array Value} {s : State} {c : Jvm.Cond} {L : List Jvm.Cond} (h0 : c.before a s = true) (h : ∀ w ∈ L, w.before a s = true) : ∀ w ∈ c :: L, w.before a s = true := fun w hw => (List.mem_cons.mp hw).elim (fun e => e ▸ h0) (h w)
/-- the words of String.length(), either coding -/
abbrev wordsLen : List Jvm.Cond := [.code Len.yN Len.yB 1 (some .int), .initialized ST, .fieldLink ST 9 ST "value" "[B", .fieldLink ST 38 ST "COMPACT_STRINGS" "Z", .fieldLink ST 15 ST "coder" "B", .code Cdr.yN Cdr.yB 1 (some .byte), .methodLink ST 335 Cdr.yN, .declares Cdr.yN, .selects ST Cdr.yN Cdr.yN, .instanceMethod Cdr.yN]
theorem tabLen_of {a : Array Value} {s : State} (h : ∀ w ∈ wordsLen, w.before a s = true) : Len.tab.before a s = true := by
  have hc : Cdr.tab.before a s = true := unparts (wk h (.code Cdr.yN Cdr.yB 1 (some .byte))) (wks h (.initialized Cdr.yN.cls :: Cdr.site))
  have q := consq hc h
  exact unparts (wk q (.code Len.yN Len.yB 1 (some .int))) (wks q (.initialized Len.yN.cls :: Len.site))
theorem movedLen {Z s : State} {a0 args : Array Value} (hZ : Z.Warmed39 s.vm) (hw : ∀ d ∈ wordsLen, d.before a0 Z = true) : ∀ d ∈ wordsLen, d.before args s = true := fun d hd => by
  have q := hw d hd
  have t : ∀ d ∈ wordsLen, d = .arrayClass .byte ∨ (d.onTables && d.keepsFace) = true := by decide +kernel
  rcases t d hd with rfl | t
  · exact RoadKit.mvA hZ q
  · exact RoadKit.mv hZ q t
/-- the bytes of the chars cs, low before high -/
def wideBytes : List Int32 → List Value
  | [] => []
  | c :: cs => .int (lo8 c) :: .int (hi8 c) :: wideBytes cs
theorem wide_lo (d : Value) : ∀ (cs : List Int32) (j : Nat), j < cs.length → (wideBytes cs).getD (2 * j) d = .int (lo8 (cs.getD j 0))
  | [], j, h => absurd h (Nat.not_lt_zero j)
  | c :: cs, 0, _ => rfl
  | c :: cs, j + 1, h => by
    have q := wide_lo d cs j (by simpa using h)
    rw [show 2 * (j + 1) = 2 * j + 1 + 1 from by omega]
    simpa [wideBytes] using q
theorem wide_hi (d : Value) : ∀ (cs : List Int32) (j : Nat), j < cs.length → (wideBytes cs).getD (2 * j + 1) d = .int (hi8 (cs.getD j 0))
  | [], j, h => absurd h (Nat.not_lt_zero j)
  | c :: cs, 0, _ => rfl
  | c :: cs, j + 1, h => by
    have q := wide_hi d cs j (by simpa using h)
    rw [show 2 * (j + 1) + 1 = 2 * j + 1 + 1 + 1 from by omega]
    simpa [wideBytes] using q
theorem low_at (d : Value) (cs : List Int32) (j : Nat) (h : j < cs.length) : (cs.map fun c => Value.int (lo8 c)).getD j d = .int (lo8 (cs.getD j 0)) := by
  simp [List.getD_eq_getElem?_getD, h]
/-- an array of N2 bytes vs codes the chars cs by the coder cd -/
def CodA (cs : List Int32) (cd N2 : Int32) (vs : List Value) : Prop := (cd = 0 ∧ N2 = Int32.ofNat cs.length ∧ vs = (cs.map fun c => Value.int (lo8 c)) ∧ ∀ c ∈ cs, ¬ 255 < c) ∨ (cd = 1 ∧ N2 = Int32.ofNat (2 * cs.length) ∧ vs = wideBytes cs ∧ ∃ c ∈ cs, 255 < c)
theorem CodA.cod {cs : List Int32} {cd N2 : Int32} {vs : List Value} {V : Cell} (h : CodA cs cd N2 vs) (hn : 2 * cs.length < 2 ^ 31) (hs : V.slots.size = N2.toNatClampNeg) (hv : RoadKit.Has V vs (.int 0)) : Cod cd cs.length (fun j => cs.getD j 0) V := by
  rcases h with ⟨rfl, rfl, rfl, h⟩ | ⟨rfl, rfl, rfl, c, hc, hw⟩
  · rw [n32 (by omega)] at hs
    exact Or.inl ⟨rfl, hs, fun j hj => ⟨by rw [hv j (by omega), low_at _ _ _ hj], by
      have e : cs.getD j 0 = cs[j] := by simp [List.getD_eq_getElem?_getD, hj]
      show ¬ 255 < cs.getD j 0
      rw [e]; exact h _ (List.getElem_mem _)⟩⟩
  · rw [n32 (by omega)] at hs
    obtain ⟨j, hj, rfl⟩ := List.getElem_of_mem hc
    exact Or.inr ⟨rfl, hs, fun j hj => ⟨by rw [hv _ (by omega), wide_lo _ _ _ hj], by rw [hv _ (by omega), wide_hi _ _ _ hj]⟩, j, hj, by
      have e : cs.getD j 0 = cs[j] := by simp [List.getD_eq_getElem?_getD, hj]
      show 255 < cs.getD j 0
      rw [e]; exact hw⟩
/-- an object of exactly java/lang/String, its two fields found: as the laws ask it -/
theorem strObj {Z U : State} {a0 : Array Value} {kI : Nat} (wi : (Jvm.Cond.instantiable ST kI).before a0 Z = true) (al : Z.vm.Alike U.vm) {x : Addr} {v0 c0 : Value} (E : RoadKit.Exa Z U.heap x ST) (V : RoadKit.Fld Z U.heap x ST "value" "[B" v0) (C : RoadKit.Fld Z U.heap x ST "coder" "B" c0) :
    ∃ (D : Cell) (fV fC : Field), Blank ST x D U ∧ Found ST "value" "[B" fV U ∧ Found ST "coder" "B" fC U ∧ D.slots[fV.slot]? = some v0 ∧ D.slots[fC.slot]? = some c0 ∧ RoadKit.slotOf Z ST "value" "[B" = fV.slot ∧ RoadKit.slotOf Z ST "coder" "B" = fC.slot := by
  obtain ⟨D, cfV, kV, iV, fV, hD, gV, stV, knV, obV, asV, slV⟩ := V
  obtain ⟨D', cfC, kC, iC, fC, hD', gC, stC, -, -, asC, slC⟩ := C
  cases hD.symm.trans hD'
  obtain ⟨D2, kD, e1, e2, e3, e4, e5⟩ := E
  cases hD.symm.trans e1
  obtain ⟨c2, k2, i1, i2, i3, -⟩ := Cond.instantiable_spec wi
  cases e2.symm.trans i1
  cases e3.symm.trans i2
  obtain ⟨kU, u1, u2⟩ := al.2.2 _ _ e3
  exact ⟨D, fV, fC, ⟨hD, ⟨knV, fun q hq => by rw [hq] at obV; cases obV⟩, by rw [al.findClass]; exact e2, kU, u1, by rw [u2]; exact i3, by rw [u2]; exact e5 i3⟩, ⟨SBG.found_only al ⟨cfV, kV, iV, gV⟩, stV⟩, ⟨SBG.found_only al ⟨cfC, kC, iC, gC⟩, stC⟩, slV, slC, by simp [RoadKit.slotOf, gV], by simp [RoadKit.slotOf, gC]⟩
theorem sta_is {Z U : State} (al : Z.vm.Alike U.vm) {C n d : String} {v : Value} (S : RoadKit.Sta Z U.heap C n d v) : StaticIs U C n d v := by
  obtain ⟨cfS, iS, kS, fS, st, cS, t1, t2, t3, t4, t5, t6, t7⟩ := S
  exact StaticIs.there (s := { Z with heap := U.heap }) ⟨cfS, iS, kS, fS, st, cS, t1, t2, t3, t4, t5, (fun q => by rw [q] at t6; cases t6), t7⟩ al rfl
/-- **length() OF SUCH A STRING** -/
theorem lenW {p : Program} {l : Launch} {e : Env} {R : Room} {s : State} {args : Array Value} {below : List Frame} {len W : Nat} {Z : State} {a0 : Array Value} {h : Heap} (hZ : Z.Warmed39 s.vm) (hw : ∀ d ∈ wordsLen, d.before a0 Z = true) {kI : Nat} (wi : (Jvm.Cond.instantiable ST kI).before a0 Z = true)
    {x t : Addr} {kb : ClassId} {cs : List Int32} {cd N2 z : Int32} {vs : List Value} (E : RoadKit.Exa Z h x ST) (V : RoadKit.Fld Z h x ST "value" "[B" (.ref t)) (C : RoadKit.Fld Z h x ST "coder" "B" (.int cd)) (K : RoadKit.Arv Z h t kb .byte N2 vs (.int 0)) (hc : CodA cs cd N2 vs) (hb : ∀ c ∈ cs, ¬ c < 0 ∧ ¬ (65535 : Int32) < c)
    (S : RoadKit.Sta Z h ST "COMPACT_STRINGS" "Z" (.int z)) (hz : ¬ z = 0) (l2 : cs.length ≤ 4000) (hfr : 2 ≤ R.frames) (hlo : W + 25 ≤ R.locals) :
    Back l R p e below s args (⟨"java/lang/String", "length", "()I"⟩ : MethodName) len W (fun P a => a = #[.ref x] ∧ P.U.heap = h ∧ P.cells + 0 ≤ R.cells ∧ P.slots + 0 ≤ R.slots)
      (fun P _ v B => ∃ L, (v = some (.int (Int32.ofNat cs.length)) ∧ L = [] ∧ B.U.heap = h) ∧ B.locs = P.locs ++ L ∧ B.cells = P.cells + 0 ∧ B.slots = P.slots + 0) := by
  obtain ⟨A, K1, K2, K3, K4, K5, K6⟩ := K
  have hcod := hc.cod (by omega) K3 K5
  intro m meth c P g ig mk a X hg hsize hdg hW hn hp'
  obtain ⟨rfl, rfl, r1, r2⟩ := hp'
  have al : Z.vm.Alike P.U.vm := hZ.alike.trans X.warmed.alike
  obtain ⟨D, fV, fC, hB, F1, F2, g1, g2, -, -⟩ := strObj wi al E V C
  have hx : Txt x t A cd cs.length (fun j => cs.getD j 0) P.U := ⟨⟨_, hB.2.2.1, D, hB.1, rfl, by cases q : D.vm <;> first | rfl | exact absurd q (hB.2.1.2 _)⟩, Has.of hB F1 g1, Has.of hB F2 g2, ⟨K1.1, State.isArrayOf_alike al K1.2.1, K1.2.2, by rcases hcod with ⟨-, q, -⟩ | ⟨-, q, -⟩ <;> omega⟩, hcod, fun j hj => by
    have e : cs.getD j 0 = cs[j] := by simp [List.getD_eq_getElem?_getD, hj]
    show ¬ cs.getD j 0 < 0 ∧ ¬ 65535 < cs.getD j 0
    rw [e]; exact hb _ (List.getElem_mem _)⟩
  obtain ⟨v, B, X', ⟨⟨hv, hh⟩, hl, hk, hs⟩, st⟩ := Len.pays x t A cd cs.length (fun j => cs.getD j 0) z (tabLen_of (movedLen hZ hw)) hfr hlo m meth c P g ig mk _ X hg hsize hdg hW hn ⟨r1, r2, rfl, hx, sta_is al S, hz⟩
  exact ⟨v, B, X', ⟨[], ⟨hv, rfl, hh⟩, hl, hk, hs⟩, st⟩
end StrChars.Road
namespace StrChars.Road
open Jvm Sem ClassFile Op Lib Jvm.Stand Jvm.Free Jvm.Free.XT
open Jvm.Lib.Cold (StaticIs)
/-- what backV says of its String, as the contracts of this text ask it: cs's low bytes, coder 0 -/
theorem codOf {cs : List Int32} {n : Nat} (hn : cs.length = n) (hb : ∀ c ∈ cs, ¬ 255 < c) : CodA cs 0 (Int32.ofNat n) ((cs.map lo8).map Value.int) := Or.inl ⟨rfl, by rw [hn], by simp [List.map_map, Function.comp_def], hb⟩
end StrChars.Road
end Jvm.Pilot.@@N@@
namespace Jvm.Pilot.@@N@@
namespace Own
open Jvm Jvm.ClassFile Sem Op Lib Jvm.Free Jvm.Stand Jvm.LawKit Jvm.RoadKit Bundle
/-! ## 1. The plain steps, run as a function on pc, locals and stack -/
abbrev Fm : Type := Nat × Array Slot × List Value
def i1 (S : List Value) (f : Int32 → List Value → Option Fm) : Option Fm := match S with | .int x :: S => f x S | _ => none
def i2 (S : List Value) (f : Int32 → Int32 → List Value → Option Fm) : Option Fm := match S with | .int y :: .int x :: S => f x y S | _ => none
def l1 (S : List Value) (f : Int64 → List Value → Option Fm) : Option Fm := match S with | .long x :: S => f x S | _ => none
def l2 (S : List Value) (f : Int64 → Int64 → List Value → Option Fm) : Option Fm := match S with | .long y :: .long x :: S => f x y S | _ => none
def il2 (S : List Value) (f : Int64 → Int32 → List Value → Option Fm) : Option Fm := match S with | .int y :: .long x :: S => f x y S | _ => none
def v1 (S : List Value) (f : Value → List Value → Option Fm) : Option Fm := match S with | x :: S => f x S | _ => none
def v2 (S : List Value) (f : Value → Value → List Value → Option Fm) : Option Fm := match S with | y :: x :: S => f x y S | _ => none
def gi (L : Array Slot) (k : Nat) (f : Int32 → Option Fm) : Option Fm := match L[k]? with | some (.val (.int x)) => f x | _ => none
def gl (L : Array Slot) (k : Nat) (f : Int64 → Option Fm) : Option Fm := match L[k]? with | some (.val (.long x)) => f x | _ => none
def gr (L : Array Slot) (k : Nat) (f : Value → Option Fm) : Option Fm := match L[k]? with | some (.val .null) => f .null | some (.val (.ref a)) => f (.ref a) | _ => none
def ck (P : Prop) [Decidable P] (r : Option Fm) : Option Fm := if P then r else none
def st (o : Option (Array Slot)) (f : Array Slot → Fm) : Option Fm := match o with | some L => some (f L) | none => none
theorem i1_inv {S f r} (h : i1 S f = some r) : ∃ x S', S = .int x :: S' ∧ f x S' = some r := by unfold i1 at h; split at h <;> first | exact ⟨_, _, rfl, h⟩ | exact nomatch h
theorem i2_inv {S f r} (h : i2 S f = some r) : ∃ x y S', S = .int y :: .int x :: S' ∧ f x y S' = some r := by unfold i2 at h; split at h <;> first | exact ⟨_, _, _, rfl, h⟩ | exact nomatch h
theorem l1_inv {S f r} (h : l1 S f = some r) : ∃ x S', S = .long x :: S' ∧ f x S' = some r := by unfold l1 at h; split at h <;> first | exact ⟨_, _, rfl, h⟩ | exact nomatch h
theorem l2_inv {S f r} (h : l2 S f = some r) : ∃ x y S', S = .long y :: .long x :: S' ∧ f x y S' = some r := by unfold l2 at h; split at h <;> first | exact ⟨_, _, _, rfl, h⟩ | exact nomatch h
theorem il2_inv {S f r} (h : il2 S f = some r) : ∃ x y S', S = .int y :: .long x :: S' ∧ f x y S' = some r := by unfold il2 at h; split at h <;> first | exact ⟨_, _, _, rfl, h⟩ | exact nomatch h
theorem v1_inv {S f r} (h : v1 S f = some r) : ∃ x S', S = x :: S' ∧ f x S' = some r := by unfold v1 at h; split at h <;> first | exact ⟨_, _, rfl, h⟩ | exact nomatch h
theorem v2_inv {S f r} (h : v2 S f = some r) : ∃ x y S', S = y :: x :: S' ∧ f x y S' = some r := by unfold v2 at h; split at h <;> first | exact ⟨_, _, _, rfl, h⟩ | exact nomatch h
theorem gi_inv {L k f r} (h : gi L k f = some r) : ∃ x, L[k]? = some (.val (.int x)) ∧ f x = some r := by unfold gi at h; split at h <;> first | exact ⟨_, by assumption, h⟩ | exact nomatch h
theorem gl_inv {L k f r} (h : gl L k f = some r) : ∃ x, L[k]? = some (.val (.long x)) ∧ f x = some r := by unfold gl at h; split at h <;> first | exact ⟨_, by assumption, h⟩ | exact nomatch h
theorem gr_inv {L k f r} (h : gr L k f = some r) : ∃ x, L[k]? = some (.val x) ∧ x.isRef = true ∧ f x = some r := by unfold gr at h; split at h <;> first | exact ⟨_, by assumption, rfl, h⟩ | exact ⟨_, by assumption, rfl, h⟩ | exact nomatch h
theorem ck_inv {P : Prop} [Decidable P] {r : Option Fm} {x : Fm} (h : ck P r = some x) : P ∧ r = some x := by unfold ck at h; split at h <;> first | exact ⟨by assumption, h⟩ | exact nomatch h
theorem st_inv {o f r} (h : st o f = some r) : ∃ L, o = some L ∧ f L = r := by unfold st at h; split at h <;> first | exact ⟨_, rfl, Option.some.inj h⟩ | exact nomatch h
def p1 (i : Instr) (n pc : Nat) (L : Array Slot) (S : List Value) : Option Fm := match i with
  | .iload_n k => ck (n = 1) (gi L k.val fun v => some (pc + 1, L, .int v :: S))
  | .iload k => ck (n = 2) (gi L k fun v => some (pc + 2, L, .int v :: S))
  | .lload_n k => ck (n = 1) (gl L k.val fun v => some (pc + 1, L, .long v :: S))
  | .lload k => ck (n = 2) (gl L k fun v => some (pc + 2, L, .long v :: S))
  | .aload_n k => ck (n = 1) (gr L k.val fun v => some (pc + 1, L, v :: S))
  | .aload k => ck (n = 2) (gr L k fun v => some (pc + 2, L, v :: S))
  | .iconst i => ck (n = 1) (some (pc + 1, L, .int (Int32.ofInt i) :: S))
  | .lconst k => ck (n = 1) (some (pc + 1, L, .long (Int64.ofNat k) :: S))
  | .bipush i => ck (n = 2) (some (pc + 2, L, .int (Int8.ofInt i).toInt32 :: S))
  | .sipush i => ck (n = 3) (some (pc + 3, L, .int (Int16.ofInt i).toInt32 :: S))
  | .aconst_null => ck (n = 1) (some (pc + 1, L, .null :: S))
  | .iadd => ck (n = 1) (i2 S fun x y S => some (pc + 1, L, .int (x + y) :: S))
  | .isub => ck (n = 1) (i2 S fun x y S => some (pc + 1, L, .int (x - y) :: S))
  | .imul => ck (n = 1) (i2 S fun x y S => some (pc + 1, L, .int (x * y) :: S))
  | .iand => ck (n = 1) (i2 S fun x y S => some (pc + 1, L, .int (x &&& y) :: S))
  | .ior => ck (n = 1) (i2 S fun x y S => some (pc + 1, L, .int (x ||| y) :: S))
  | .ixor => ck (n = 1) (i2 S fun x y S => some (pc + 1, L, .int (x ^^^ y) :: S))
  | .ishl => ck (n = 1) (i2 S fun x y S => some (pc + 1, L, .int (x <<< (y &&& 31)) :: S))
  | .ishr => ck (n = 1) (i2 S fun x y S => some (pc + 1, L, .int (x >>> (y &&& 31)) :: S))
  | .iushr => ck (n = 1) (i2 S fun x y S => some (pc + 1, L, .int (XT.ushr x y) :: S))
  | .irem => ck (n = 1) (i2 S fun x y S => ck (y ≠ 0) (some (pc + 1, L, .int (x % y) :: S)))
  | .idiv => ck (n = 1) (i2 S fun x y S => ck (y ≠ 0) (some (pc + 1, L, .int (x / y) :: S)))
  | .ineg => ck (n = 1) (i1 S fun x S => some (pc + 1, L, .int (-x) :: S))
  | .ladd => ck (n = 1) (l2 S fun x y S => some (pc + 1, L, .long (x + y) :: S))
  | .lsub => ck (n = 1) (l2 S fun x y S => some (pc + 1, L, .long (x - y) :: S))
  | .lmul => ck (n = 1) (l2 S fun x y S => some (pc + 1, L, .long (x * y) :: S))
  | .land => ck (n = 1) (l2 S fun x y S => some (pc + 1, L, .long (x &&& y) :: S))
  | .lor => ck (n = 1) (l2 S fun x y S => some (pc + 1, L, .long (x ||| y) :: S))
  | .lxor => ck (n = 1) (l2 S fun x y S => some (pc + 1, L, .long (x ^^^ y) :: S))
  | .lushr => ck (n = 1) (il2 S fun x y S => some (pc + 1, L, .long (XT.ushrL x y) :: S))
  | .lshr => ck (n = 1) (il2 S fun x y S => some (pc + 1, L, .long (x >>> (y.toInt64 &&& 63)) :: S))
  | .lshl => ck (n = 1) (il2 S fun x y S => some (pc + 1, L, .long (x <<< (y.toInt64 &&& 63)) :: S))
  | .ldiv => ck (n = 1) (l2 S fun x y S => ck (y ≠ 0) (some (pc + 1, L, .long (x / y) :: S)))
  | .lrem => ck (n = 1) (l2 S fun x y S => ck (y ≠ 0) (some (pc + 1, L, .long (x % y) :: S)))
  | .lcmp => ck (n = 1) (l2 S fun x y S => some (pc + 1, L, .int (XT.cmpL x y) :: S))
  | .lneg => ck (n = 1) (l1 S fun x S => some (pc + 1, L, .long (-x) :: S))
  | .i2l => ck (n = 1) (i1 S fun x S => some (pc + 1, L, .long x.toInt64 :: S))
  | .l2i => ck (n = 1) (l1 S fun x S => some (pc + 1, L, .int x.toInt32 :: S))
  | .i2b => ck (n = 1) (i1 S fun x S => some (pc + 1, L, .int x.toInt8.toInt32 :: S))
  | .i2c => ck (n = 1) (i1 S fun x S => some (pc + 1, L, .int x.toUInt32.toUInt16.toUInt32.toInt32 :: S))
  | .istore_n k => ck (n = 1) (i1 S fun x S => st (storeLocals L k.val (.int x)) fun L => (pc + 1, L, S))
  | .istore k => ck (n = 2) (i1 S fun x S => st (storeLocals L k (.int x)) fun L => (pc + 2, L, S))
  | .lstore_n k => ck (n = 1) (l1 S fun x S => st (storeLocals L k.val (.long x)) fun L => (pc + 1, L, S))
  | .lstore k => ck (n = 2) (l1 S fun x S => st (storeLocals L k (.long x)) fun L => (pc + 2, L, S))
  | .astore_n k => ck (n = 1) (v1 S fun x S => ck (x.isRef = true) (st (storeLocals L k.val x) fun L => (pc + 1, L, S)))
  | .astore k => ck (n = 2) (v1 S fun x S => ck (x.isRef = true) (st (storeLocals L k x) fun L => (pc + 2, L, S)))
  | .iinc k i => ck (n = 3) (gi L k fun v => st (storeLocals L k (.int (v + Int32.ofInt i))) fun L => (pc + 3, L, S))
  | .dup => ck (n = 1) (v1 S fun x S => ck (x.category = 1) (some (pc + 1, L, x :: x :: S)))
  | .dup_x1 => ck (n = 1) (v2 S fun y x S => ck (x.category = 1 ∧ y.category = 1) (some (pc + 1, L, x :: y :: x :: S)))
  | .pop => ck (n = 1) (v1 S fun x S => ck (x.category = 1) (some (pc + 1, L, S)))
  | .goto o => ck (n = 3 ∧ 0 ≤ (pc : Int) + o) (some (((pc : Int) + o).toNat, L, S))
  | _ => none
set_option maxHeartbeats 4000000 in
theorem p1_sound {tb : Tables} [Ours tb] {e : Env} {below : List Frame} {T target : State} {m : MethodId} {c : Code} (h : At T m c below) (hx : tb.exec = Jvm.exec) {i : Instr} {n pc : Nat} {L : Array Slot} {S : List Value} {F : Fm}
    (hd : decode c.code pc = .ok (i, n)) (hp : p1 i n pc L S = some F) (hr : Steps tb e below (T.setTop (mkF m F.1 F.2.1 F.2.2)) target) : Steps tb e below (T.setTop (mkF m pc L S)) target := by
  cases i <;> simp only [p1, reduceCtorEq] at hp
  case iload_n k => obtain ⟨rfl, hp1⟩ := ck_inv hp; obtain ⟨v, hl, hp2⟩ := gi_inv hp1; cases hp2; exact XS.iloadN h hx rfl hd hl hr
  case iload k => obtain ⟨rfl, hp1⟩ := ck_inv hp; obtain ⟨v, hl, hp2⟩ := gi_inv hp1; cases hp2; exact XS.iload h hx rfl hd hl hr
  case lload_n k => obtain ⟨rfl, hp1⟩ := ck_inv hp; obtain ⟨v, hl, hp2⟩ := gl_inv hp1; cases hp2; exact XT.lloadN h hx rfl hd hl hr
  case lload k => obtain ⟨rfl, hp1⟩ := ck_inv hp; obtain ⟨v, hl, hp2⟩ := gl_inv hp1; cases hp2; exact XT.lload h hx rfl hd hl hr
  case aload_n k => obtain ⟨rfl, hp1⟩ := ck_inv hp; obtain ⟨v, hl, hv, hp2⟩ := gr_inv hp1; cases hp2; exact XS.aloadN h hx rfl hd hl hv hr
  case aload k => obtain ⟨rfl, hp1⟩ := ck_inv hp; obtain ⟨v, hl, hv, hp2⟩ := gr_inv hp1; cases hp2; exact XS.aload h hx rfl hd hl hv hr
  case iconst i => obtain ⟨rfl, hp1⟩ := ck_inv hp; cases hp1; exact XS.iconst h hx rfl hd hr
  case lconst i => obtain ⟨rfl, hp1⟩ := ck_inv hp; cases hp1; exact XT.lconst h hx rfl hd hr
  case bipush i => obtain ⟨rfl, hp1⟩ := ck_inv hp; cases hp1; exact XS.bipush h hx rfl hd hr
  case sipush i => obtain ⟨rfl, hp1⟩ := ck_inv hp; cases hp1; exact XS.sipush h hx rfl hd hr
  case aconst_null => obtain ⟨rfl, hp1⟩ := ck_inv hp; cases hp1; exact XS.aconstNull h hx rfl hd hr
  case iadd => obtain ⟨rfl, hp1⟩ := ck_inv hp; obtain ⟨x, y, S', rfl, hp2⟩ := i2_inv hp1; cases hp2; exact XS.iadd h hx rfl hd rfl hr
  case isub => obtain ⟨rfl, hp1⟩ := ck_inv hp; obtain ⟨x, y, S', rfl, hp2⟩ := i2_inv hp1; cases hp2; exact XS.isub h hx rfl hd rfl hr
  case imul => obtain ⟨rfl, hp1⟩ := ck_inv hp; obtain ⟨x, y, S', rfl, hp2⟩ := i2_inv hp1; cases hp2; exact XS.imul h hx rfl hd rfl hr
  case iand => obtain ⟨rfl, hp1⟩ := ck_inv hp; obtain ⟨x, y, S', rfl, hp2⟩ := i2_inv hp1; cases hp2; exact XS.iand h hx rfl hd rfl hr
  case ior => obtain ⟨rfl, hp1⟩ := ck_inv hp; obtain ⟨x, y, S', rfl, hp2⟩ := i2_inv hp1; cases hp2; exact XT.ior h hx rfl hd rfl hr
  case ixor => obtain ⟨rfl, hp1⟩ := ck_inv hp; obtain ⟨x, y, S', rfl, hp2⟩ := i2_inv hp1; cases hp2; exact XT.ixor h hx rfl hd rfl hr
  case ishl => obtain ⟨rfl, hp1⟩ := ck_inv hp; obtain ⟨x, y, S', rfl, hp2⟩ := i2_inv hp1; cases hp2; exact XT.ishl h hx rfl hd rfl hr
  case ishr => obtain ⟨rfl, hp1⟩ := ck_inv hp; obtain ⟨x, y, S', rfl, hp2⟩ := i2_inv hp1; cases hp2; exact XT.ishr h hx rfl hd rfl hr
  case iushr => obtain ⟨rfl, hp1⟩ := ck_inv hp; obtain ⟨x, y, S', rfl, hp2⟩ := i2_inv hp1; cases hp2; exact XT.iushr h hx rfl hd rfl hr
  case irem => obtain ⟨rfl, hp1⟩ := ck_inv hp; obtain ⟨x, y, S', rfl, hp2⟩ := i2_inv hp1; obtain ⟨hy, hp3⟩ := ck_inv hp2; cases hp3; exact XS.irem h hx rfl hd rfl hy (by rw [irem_eq_mod]; exact hr)
  case idiv => obtain ⟨rfl, hp1⟩ := ck_inv hp; obtain ⟨x, y, S', rfl, hp2⟩ := i2_inv hp1; obtain ⟨hy, hp3⟩ := ck_inv hp2; cases hp3; exact XS.idiv h hx rfl hd rfl hy hr
  case ineg => obtain ⟨rfl, hp1⟩ := ck_inv hp; obtain ⟨x, S', rfl, hp2⟩ := i1_inv hp1; cases hp2; exact XS.ineg h hx rfl hd rfl hr
  case ladd => obtain ⟨rfl, hp1⟩ := ck_inv hp; obtain ⟨x, y, S', rfl, hp2⟩ := l2_inv hp1; cases hp2; exact XT.ladd h hx rfl hd rfl hr
  case lsub => obtain ⟨rfl, hp1⟩ := ck_inv hp; obtain ⟨x, y, S', rfl, hp2⟩ := l2_inv hp1; cases hp2; exact XT.lsub h hx rfl hd rfl hr
  case lmul => obtain ⟨rfl, hp1⟩ := ck_inv hp; obtain ⟨x, y, S', rfl, hp2⟩ := l2_inv hp1; cases hp2; exact XT.lmul h hx rfl hd rfl hr
  case land => obtain ⟨rfl, hp1⟩ := ck_inv hp; obtain ⟨x, y, S', rfl, hp2⟩ := l2_inv hp1; cases hp2; exact XT.land h hx rfl hd rfl hr
  case lor => obtain ⟨rfl, hp1⟩ := ck_inv hp; obtain ⟨x, y, S', rfl, hp2⟩ := l2_inv hp1; cases hp2; exact XT.lor h hx rfl hd rfl hr
  case lxor => obtain ⟨rfl, hp1⟩ := ck_inv hp; obtain ⟨x, y, S', rfl, hp2⟩ := l2_inv hp1; cases hp2; exact XT.lxor h hx rfl hd rfl hr
  case lushr => obtain ⟨rfl, hp1⟩ := ck_inv hp; obtain ⟨x, y, S', rfl, hp2⟩ := il2_inv hp1; cases hp2; exact XT.lushr h hx rfl hd rfl hr
  case lshr => obtain ⟨rfl, hp1⟩ := ck_inv hp; obtain ⟨x, y, S', rfl, hp2⟩ := il2_inv hp1; cases hp2; exact XT.lshr h hx rfl hd rfl hr
  case lshl => obtain ⟨rfl, hp1⟩ := ck_inv hp; obtain ⟨x, y, S', rfl, hp2⟩ := il2_inv hp1; cases hp2; exact XT.lshl h hx rfl hd rfl hr
  case ldiv => obtain ⟨rfl, hp1⟩ := ck_inv hp; obtain ⟨x, y, S', rfl, hp2⟩ := l2_inv hp1; obtain ⟨hy, hp3⟩ := ck_inv hp2; cases hp3; exact XT.ldiv h hx rfl hd rfl hy hr
  case lrem => obtain ⟨rfl, hp1⟩ := ck_inv hp; obtain ⟨x, y, S', rfl, hp2⟩ := l2_inv hp1; obtain ⟨hy, hp3⟩ := ck_inv hp2; cases hp3; exact XT.lrem h hx rfl hd rfl hy (by rw [lrem_mod]; exact hr)
  case lcmp => obtain ⟨rfl, hp1⟩ := ck_inv hp; obtain ⟨x, y, S', rfl, hp2⟩ := l2_inv hp1; cases hp2; exact XT.lcmp h hx rfl hd rfl hr
  case lneg => obtain ⟨rfl, hp1⟩ := ck_inv hp; obtain ⟨x, S', rfl, hp2⟩ := l1_inv hp1; cases hp2; exact XT.lneg h hx rfl hd rfl hr
  case i2l => obtain ⟨rfl, hp1⟩ := ck_inv hp; obtain ⟨x, S', rfl, hp2⟩ := i1_inv hp1; cases hp2; exact XT.i2l h hx rfl hd rfl hr
  case l2i => obtain ⟨rfl, hp1⟩ := ck_inv hp; obtain ⟨x, S', rfl, hp2⟩ := l1_inv hp1; cases hp2; exact XT.l2i h hx rfl hd rfl hr
  case i2b => obtain ⟨rfl, hp1⟩ := ck_inv hp; obtain ⟨x, S', rfl, hp2⟩ := i1_inv hp1; cases hp2; exact XT.i2b h hx rfl hd rfl hr
  case i2c => obtain ⟨rfl, hp1⟩ := ck_inv hp; obtain ⟨x, S', rfl, hp2⟩ := i1_inv hp1; cases hp2; exact XT.i2c h hx rfl hd rfl hr
  case istore_n k => obtain ⟨rfl, hp1⟩ := ck_inv hp; obtain ⟨x, S', rfl, hp2⟩ := i1_inv hp1; obtain ⟨L1, hl, rfl⟩ := st_inv hp2; exact XS.istoreN h hx rfl hd rfl hl hr
  case istore k => obtain ⟨rfl, hp1⟩ := ck_inv hp; obtain ⟨x, S', rfl, hp2⟩ := i1_inv hp1; obtain ⟨L1, hl, rfl⟩ := st_inv hp2; exact XS.istore h hx rfl hd rfl hl hr
  case lstore_n k => obtain ⟨rfl, hp1⟩ := ck_inv hp; obtain ⟨x, S', rfl, hp2⟩ := l1_inv hp1; obtain ⟨L1, hl, rfl⟩ := st_inv hp2; exact XT.lstoreN h hx rfl hd rfl hl hr
  case lstore k => obtain ⟨rfl, hp1⟩ := ck_inv hp; obtain ⟨x, S', rfl, hp2⟩ := l1_inv hp1; obtain ⟨L1, hl, rfl⟩ := st_inv hp2; exact XT.lstore h hx rfl hd rfl hl hr
  case astore_n k => obtain ⟨rfl, hp1⟩ := ck_inv hp; obtain ⟨x, S', rfl, hp2⟩ := v1_inv hp1; obtain ⟨hv, hp3⟩ := ck_inv hp2; obtain ⟨L1, hl, rfl⟩ := st_inv hp3; exact XS.astoreN h hx rfl hd rfl hv hl hr
  case astore k => obtain ⟨rfl, hp1⟩ := ck_inv hp; obtain ⟨x, S', rfl, hp2⟩ := v1_inv hp1; obtain ⟨hv, hp3⟩ := ck_inv hp2; obtain ⟨L1, hl, rfl⟩ := st_inv hp3; exact XS.astore h hx rfl hd rfl hv hl hr
  case iinc k i => obtain ⟨rfl, hp1⟩ := ck_inv hp; obtain ⟨v, hl, hp2⟩ := gi_inv hp1; obtain ⟨L1, hl', rfl⟩ := st_inv hp2; exact XS.iinc h hx rfl hd hl hl' hr
  case dup => obtain ⟨rfl, hp1⟩ := ck_inv hp; obtain ⟨x, S', rfl, hp2⟩ := v1_inv hp1; obtain ⟨hc, hp3⟩ := ck_inv hp2; cases hp3; exact XS.dup h hx rfl hd rfl hc hr
  case dup_x1 => obtain ⟨rfl, hp1⟩ := ck_inv hp; obtain ⟨y, x, S', rfl, hp2⟩ := v2_inv hp1; obtain ⟨hc, hp3⟩ := ck_inv hp2; cases hp3; exact XT.dupX1 h hx rfl hd rfl hc.1 hc.2 hr
  case pop => obtain ⟨rfl, hp1⟩ := ck_inv hp; obtain ⟨x, S', rfl, hp2⟩ := v1_inv hp1; obtain ⟨hc, hp3⟩ := ck_inv hp2; cases hp3; exact XT.pop h hx rfl hd rfl hc hr
  case goto o => obtain ⟨⟨rfl, ho⟩, hp1⟩ := ck_inv hp; cases hp1; exact XS.goto h hx rfl (pc0 := pc) rfl hd ho rfl hr
/-- a straight road: each row a pc, its instruction, its length -/
def run : List (Nat × Instr × Nat) → Fm → Option Fm
  | [], F => some F
  | (q, i, n) :: r, F => if q = F.1 then (p1 i n F.1 F.2.1 F.2.2).bind (run r) else none
theorem run_cons {q : Nat} {i : Instr} {n : Nat} {r : List (Nat × Instr × Nat)} {F F' : Fm} (hp : run ((q, i, n) :: r) F = some F') : q = F.1 ∧ ∃ F1, p1 i n F.1 F.2.1 F.2.2 = some F1 ∧ run r F1 = some F' := by
  have hp' : (if q = F.1 then (p1 i n F.1 F.2.1 F.2.2).bind (run r) else none) = some F' := hp
  by_cases hq : q = F.1
  · rw [if_pos hq] at hp'
    exact ⟨hq, Option.bind_eq_some_iff.mp hp'⟩
  · rw [if_neg hq] at hp'
    exact nomatch hp'
theorem run_sound {tb : Tables} [Ours tb] {e : Env} {below : List Frame} {T target : State} {m : MethodId} {c : Code} (h : At T m c below) (hx : tb.exec = Jvm.exec) : ∀ (seg : List (Nat × Instr × Nat)) (F F' : Fm),
    (∀ x ∈ seg, decode c.code x.1 = .ok x.2) → run seg F = some F' → Steps tb e below (T.setTop (mkF m F'.1 F'.2.1 F'.2.2)) target → Steps tb e below (T.setTop (mkF m F.1 F.2.1 F.2.2)) target := by
  intro seg
  induction seg with
  | nil => intro F F' _ hp hr; cases hp; exact hr
  | cons a r ih =>
    intro F F' hd hp hr
    obtain ⟨q, i, n⟩ := a
    obtain ⟨hq, F1, h1, h2⟩ := run_cons hp
    have hd0 := hd _ (List.mem_cons_self ..)
    rw [show ((q, i, n) : Nat × Instr × Nat).1 = q from rfl, hq] at hd0
    exact p1_sound h hx hd0 h1 (ih F1 F' (fun x hm => hd x (List.mem_cons_of_mem _ hm)) h2 hr)
theorem ef_of {m : MethodId} {args : Array Value} {n : Nat} {Ls : Array Slot} (h : Jvm.Sym.laidSlots args.toList ++ List.replicate (n - (Jvm.Sym.laidSlots args.toList).length) .unset = Ls.toList) : entryFrame m args n = mkF m 0 Ls [] := by
  have : argsToLocals args n = Ls := Array.toList_inj.mp (by rw [Jvm.Sym.argsToLocals_toList]; exact h)
  unfold entryFrame
  rw [this]
theorem lb {a b : Nat} (h : Nat.ble a b = true) : a ≤ b := Nat.le_of_ble_eq_true h
theorem tw {tbl : List Jvm.Cond} {c : Jvm.Cond} (i : Nat) (h : tbl[i]? = some c) : c ∈ tbl := List.mem_of_getElem? h
/-! ## 2. The walk's standing: G -/
section G
variable {l : Launch} {Z : State} {a0 : Array Value} {EL : List (String × Nat)} {tbl : List Jvm.Cond} {n0 : Nat} {code : ByteArray} {maxL : Nat} {ret : Option FieldType} {R : Room} {own mname : String} {Q : Option Value → Heap → Prop} {h h' h1 h2 : Heap} {cells slots pc : Nat} {L : Array Slot} {S : List Value}
def Pos (l : Launch) (Z : State) (a0 : Array Value) (EL : List (String × Nat)) (tbl : List Jvm.Cond) (n0 : Nat) (code : ByteArray) (maxL : Nat) (ret : Option FieldType) (R : Room) (own mname : String) (h : Heap) (cells slots : Nat)
    (p : Program) (e : Env) (s : State) (m : MethodId) (args : Array Value) (below : List Frame) (meth : Method) (c : Code) (T : State) (vm0 : Vm) (k0 : Nat) (locs : List Loc) : Prop :=
  p.tables.exec = Jvm.exec ∧ c.code = code ∧ c.maxLocals = maxL ∧ meth.sig.returnType = ret ∧ meth.locks = false ∧ meth.name = mname ∧ EW Z a0 EL ∧ (∀ d ∈ tbl, d.before a0 Z = true) ∧
  Stand p l e R (s.setVm vm0) m args below meth c T locs cells slots ∧ T.heap = h ∧ s.Since vm0 k0 ∧ k0 ≤ h.size ∧ Z.Warmed39 vm0 ∧ vm0.findClass own = some m.cls ∧ Fr n0 locs ∧ CHr Z EL s.vm s.heap vm0 h ∧ Old Z n0 h ∧ (EL = [] → s.WarmedH vm0)
def End (Z : State) (EL : List (String × Nat)) (n0 : Nat) (R : Room) (Q : Option Value → Heap → Prop) (s : State) (o : Outcome) (t : State) : Prop :=
  ∃ v L', o = .returned v ∧ (Fr n0 L' ∧ Old Z n0 t.heap ∧ Q v t.heap) ∧ CHr Z EL s.vm s.heap t.vm t.heap ∧ ReturnedEndW s o t L' R.cells R.slots ∧ (EL = [] → s.WarmedH t.vm)
/-- from here the walk comes to its end, and Q holds there -/
def G (l : Launch) (Z : State) (a0 : Array Value) (EL : List (String × Nat)) (tbl : List Jvm.Cond) (n0 : Nat) (code : ByteArray) (maxL : Nat) (ret : Option FieldType) (R : Room) (own mname : String) (Q : Option Value → Heap → Prop)
    (h : Heap) (cells slots pc : Nat) (L : Array Slot) (S : List Value) : Prop :=
  ∀ p e s m args below meth c T vm0 k0 locs, Pos l Z a0 EL tbl n0 code maxL ret R own mname h cells slots p e s m args below meth c T vm0 k0 locs →
    ∃ s₂ o, Steps p.tables e below (T.setTop (mkF m pc L S)) s₂ ∧ s₂.status = .running ∧ Ended s₂ below o ∧ End Z EL n0 R Q s o s₂
theorem back_steps {p : Program} {e : Env} {below : List Frame} {A B : State} {P : State → Outcome → Prop} (st : ∀ t, Steps p.tables e below B t → Steps p.tables e below A t)
    (k : ∃ s₂ o, Steps p.tables e below B s₂ ∧ s₂.status = .running ∧ Ended s₂ below o ∧ P s₂ o) : ∃ s₂ o, Steps p.tables e below A s₂ ∧ s₂.status = .running ∧ Ended s₂ below o ∧ P s₂ o := by
  obtain ⟨s₂, o, h1, h2⟩ := k; exact ⟨s₂, o, st _ h1, h2⟩
theorem G.seg (seg : List (Nat × Instr × Nat)) (hdec : ∀ x ∈ seg, decode code x.1 = .ok x.2) {pc' : Nat} {L' : Array Slot} {S' : List Value} (hrun : run seg (pc, L, S) = some (pc', L', S'))
    (k : G l Z a0 EL tbl n0 code maxL ret R own mname Q h cells slots pc' L' S') : G l Z a0 EL tbl n0 code maxL ret R own mname Q h cells slots pc L S := by
  intro p e s m args below meth c T vm0 k0 locs P
  obtain ⟨hx, hby, -, -, -, -, -, -, X, -⟩ := id P
  exact back_steps (fun t ht => run_sound X.here hx seg (pc, L, S) (pc', L', S') (fun x hm => hb hby (hdec x hm)) hrun ht) (k p e s m args below meth c T vm0 k0 locs P)
theorem G.more {cells' slots' : Nat} (hc : cells ≤ cells') (hs : slots ≤ slots') (k : G l Z a0 EL tbl n0 code maxL ret R own mname Q h cells' slots' pc L S) : G l Z a0 EL tbl n0 code maxL ret R own mname Q h cells slots pc L S := by
  intro p e s m args below meth c T vm0 k0 locs P
  obtain ⟨h1, h2, h3, h4, h5, h6, h7, h8, X, r⟩ := P
  exact k p e s m args below meth c T vm0 k0 locs ⟨h1, h2, h3, h4, h5, h6, h7, h8, X.mono hc hs, r⟩
/-- a place where roads meet: proved once -/
theorem G.join {α : Type} (P : α → Prop) (J : α → Heap × Nat × Nat × Nat × Array Slot × List Value)
    (k : (∀ x, P x → G l Z a0 EL tbl n0 code maxL ret R own mname Q (J x).1 (J x).2.1 (J x).2.2.1 (J x).2.2.2.1 (J x).2.2.2.2.1 (J x).2.2.2.2.2) → G l Z a0 EL tbl n0 code maxL ret R own mname Q h cells slots pc L S)
    (hj : ∀ x, P x → G l Z a0 EL tbl n0 code maxL ret R own mname Q (J x).1 (J x).2.1 (J x).2.2.1 (J x).2.2.2.1 (J x).2.2.2.2.1 (J x).2.2.2.2.2) : G l Z a0 EL tbl n0 code maxL ret R own mname Q h cells slots pc L S := k hj
/-! branches -/
theorem G.if0 {cd : ClassFile.Cond} {o : Int} {x : Int32} {pc' : Nat} (hd : decode code pc = .ok (.ifCond cd o, 3)) (ho : 0 ≤ (pc : Int) + o) (hp : ((pc : Int) + o).toNat = pc')
    (ky : ifCond.holds cd x = true → G l Z a0 EL tbl n0 code maxL ret R own mname Q h cells slots pc' L S) (kn : ifCond.holds cd x = false → G l Z a0 EL tbl n0 code maxL ret R own mname Q h cells slots (pc + 3) L S) :
    G l Z a0 EL tbl n0 code maxL ret R own mname Q h cells slots pc L (.int x :: S) := by
  intro p e s m args below meth c T vm0 k0 locs P
  obtain ⟨hx, hby, -, -, -, -, -, -, X, -⟩ := id P
  cases hc : ifCond.holds cd x
  · exact back_steps (fun t ht => XS.ifNo X.here hx rfl (hb hby hd) rfl hc ht) (kn hc p e s m args below meth c T vm0 k0 locs P)
  · exact back_steps (fun t ht => XS.ifYes X.here hx rfl (pc0 := pc) rfl (hb hby hd) rfl hc ho hp ht) (ky hc p e s m args below meth c T vm0 k0 locs P)
theorem G.icmp {cd : ClassFile.Cond} {o : Int} {x y : Int32} {pc' : Nat} (hd : decode code pc = .ok (.if_icmp cd o, 3)) (ho : 0 ≤ (pc : Int) + o) (hp : ((pc : Int) + o).toNat = pc')
    (ky : if_icmp.holds cd x y = true → G l Z a0 EL tbl n0 code maxL ret R own mname Q h cells slots pc' L S) (kn : if_icmp.holds cd x y = false → G l Z a0 EL tbl n0 code maxL ret R own mname Q h cells slots (pc + 3) L S) :
    G l Z a0 EL tbl n0 code maxL ret R own mname Q h cells slots pc L (.int y :: .int x :: S) := by
  intro p e s m args below meth c T vm0 k0 locs P
  obtain ⟨hx, hby, -, -, -, -, -, -, X, -⟩ := id P
  cases hc : if_icmp.holds cd x y
  · exact back_steps (fun t ht => XS.icmpNo X.here hx rfl (hb hby hd) rfl hc ht) (kn hc p e s m args below meth c T vm0 k0 locs P)
  · exact back_steps (fun t ht => XS.icmpYes X.here hx rfl (pc0 := pc) rfl (hb hby hd) rfl hc ho hp ht) (ky hc p e s m args below meth c T vm0 k0 locs P)
theorem G.ifeq {o : Int} {x : Int32} {pc' : Nat} (hd : decode code pc = .ok (.ifCond .eq o, 3)) (ho : 0 ≤ (pc : Int) + o) (hp : ((pc : Int) + o).toNat = pc')
    (ky : x = 0 → G l Z a0 EL tbl n0 code maxL ret R own mname Q h cells slots pc' L S) (kn : ¬ x = 0 → G l Z a0 EL tbl n0 code maxL ret R own mname Q h cells slots (pc + 3) L S) : G l Z a0 EL tbl n0 code maxL ret R own mname Q h cells slots pc L (.int x :: S) := by
  by_cases z : x = 0
  · exact G.if0 (cd := .eq) hd ho hp (fun _ => ky z) (fun q => absurd q (by rw [XT.i0_eq_t z]; decide))
  · exact G.if0 (cd := .eq) hd ho hp (fun q => absurd q (by rw [XT.i0_eq_f z]; decide)) (fun _ => kn z)
theorem G.ifne {o : Int} {x : Int32} {pc' : Nat} (hd : decode code pc = .ok (.ifCond .ne o, 3)) (ho : 0 ≤ (pc : Int) + o) (hp : ((pc : Int) + o).toNat = pc')
    (ky : ¬ x = 0 → G l Z a0 EL tbl n0 code maxL ret R own mname Q h cells slots pc' L S) (kn : x = 0 → G l Z a0 EL tbl n0 code maxL ret R own mname Q h cells slots (pc + 3) L S) : G l Z a0 EL tbl n0 code maxL ret R own mname Q h cells slots pc L (.int x :: S) := by
  by_cases z : x = 0
  · exact G.if0 (cd := .ne) hd ho hp (fun q => absurd q (by rw [XT.i0_ne_f z]; decide)) (fun _ => kn z)
  · exact G.if0 (cd := .ne) hd ho hp (fun _ => ky z) (fun q => absurd q (by rw [XT.i0_ne_t z]; decide))
theorem G.iflt {o : Int} {x : Int32} {pc' : Nat} (hd : decode code pc = .ok (.ifCond .lt o, 3)) (ho : 0 ≤ (pc : Int) + o) (hp : ((pc : Int) + o).toNat = pc')
    (ky : x < 0 → G l Z a0 EL tbl n0 code maxL ret R own mname Q h cells slots pc' L S) (kn : ¬ x < 0 → G l Z a0 EL tbl n0 code maxL ret R own mname Q h cells slots (pc + 3) L S) : G l Z a0 EL tbl n0 code maxL ret R own mname Q h cells slots pc L (.int x :: S) := by
  by_cases z : x < 0
  · exact G.if0 (cd := .lt) hd ho hp (fun _ => ky z) (fun q => absurd q (by rw [XT.i0_lt_t z]; decide))
  · exact G.if0 (cd := .lt) hd ho hp (fun q => absurd q (by rw [XT.i0_lt_f z]; decide)) (fun _ => kn z)
theorem G.ifge {o : Int} {x : Int32} {pc' : Nat} (hd : decode code pc = .ok (.ifCond .ge o, 3)) (ho : 0 ≤ (pc : Int) + o) (hp : ((pc : Int) + o).toNat = pc')
    (ky : ¬ x < 0 → G l Z a0 EL tbl n0 code maxL ret R own mname Q h cells slots pc' L S) (kn : x < 0 → G l Z a0 EL tbl n0 code maxL ret R own mname Q h cells slots (pc + 3) L S) : G l Z a0 EL tbl n0 code maxL ret R own mname Q h cells slots pc L (.int x :: S) := by
  by_cases z : x < 0
  · exact G.if0 (cd := .ge) hd ho hp (fun q => absurd q (by rw [XT.i0_ge_f z]; decide)) (fun _ => kn z)
  · exact G.if0 (cd := .ge) hd ho hp (fun _ => ky z) (fun q => absurd q (by rw [XT.i0_ge_t z]; decide))
theorem G.ifgt {o : Int} {x : Int32} {pc' : Nat} (hd : decode code pc = .ok (.ifCond .gt o, 3)) (ho : 0 ≤ (pc : Int) + o) (hp : ((pc : Int) + o).toNat = pc')
    (ky : 0 < x → G l Z a0 EL tbl n0 code maxL ret R own mname Q h cells slots pc' L S) (kn : ¬ 0 < x → G l Z a0 EL tbl n0 code maxL ret R own mname Q h cells slots (pc + 3) L S) : G l Z a0 EL tbl n0 code maxL ret R own mname Q h cells slots pc L (.int x :: S) := by
  by_cases z : 0 < x
  · exact G.if0 (cd := .gt) hd ho hp (fun _ => ky z) (fun q => absurd q (by rw [XT.i0_gt_t z]; decide))
  · exact G.if0 (cd := .gt) hd ho hp (fun q => absurd q (by rw [XT.i0_gt_f z]; decide)) (fun _ => kn z)
theorem G.ifle {o : Int} {x : Int32} {pc' : Nat} (hd : decode code pc = .ok (.ifCond .le o, 3)) (ho : 0 ≤ (pc : Int) + o) (hp : ((pc : Int) + o).toNat = pc')
    (ky : ¬ 0 < x → G l Z a0 EL tbl n0 code maxL ret R own mname Q h cells slots pc' L S) (kn : 0 < x → G l Z a0 EL tbl n0 code maxL ret R own mname Q h cells slots (pc + 3) L S) : G l Z a0 EL tbl n0 code maxL ret R own mname Q h cells slots pc L (.int x :: S) := by
  by_cases z : 0 < x
  · exact G.if0 (cd := .le) hd ho hp (fun q => absurd q (by rw [XT.i0_le_f z]; decide)) (fun _ => kn z)
  · exact G.if0 (cd := .le) hd ho hp (fun _ => ky z) (fun q => absurd q (by rw [XT.i0_le_t z]; decide))
theorem G.iceq {o : Int} {x y : Int32} {pc' : Nat} (hd : decode code pc = .ok (.if_icmp .eq o, 3)) (ho : 0 ≤ (pc : Int) + o) (hp : ((pc : Int) + o).toNat = pc')
    (ky : x = y → G l Z a0 EL tbl n0 code maxL ret R own mname Q h cells slots pc' L S) (kn : ¬ x = y → G l Z a0 EL tbl n0 code maxL ret R own mname Q h cells slots (pc + 3) L S) : G l Z a0 EL tbl n0 code maxL ret R own mname Q h cells slots pc L (.int y :: .int x :: S) := by
  by_cases z : x = y
  · exact G.icmp (cd := .eq) hd ho hp (fun _ => ky z) (fun q => absurd q (by rw [XT.ii_eq_t z]; decide))
  · exact G.icmp (cd := .eq) hd ho hp (fun q => absurd q (by rw [XT.ii_eq_f z]; decide)) (fun _ => kn z)
theorem G.icne {o : Int} {x y : Int32} {pc' : Nat} (hd : decode code pc = .ok (.if_icmp .ne o, 3)) (ho : 0 ≤ (pc : Int) + o) (hp : ((pc : Int) + o).toNat = pc')
    (ky : ¬ x = y → G l Z a0 EL tbl n0 code maxL ret R own mname Q h cells slots pc' L S) (kn : x = y → G l Z a0 EL tbl n0 code maxL ret R own mname Q h cells slots (pc + 3) L S) : G l Z a0 EL tbl n0 code maxL ret R own mname Q h cells slots pc L (.int y :: .int x :: S) := by
  by_cases z : x = y
  · exact G.icmp (cd := .ne) hd ho hp (fun q => absurd q (by rw [XT.ii_ne_f z]; decide)) (fun _ => kn z)
  · exact G.icmp (cd := .ne) hd ho hp (fun _ => ky z) (fun q => absurd q (by rw [XT.ii_ne_t z]; decide))
theorem G.iclt {o : Int} {x y : Int32} {pc' : Nat} (hd : decode code pc = .ok (.if_icmp .lt o, 3)) (ho : 0 ≤ (pc : Int) + o) (hp : ((pc : Int) + o).toNat = pc')
    (ky : x < y → G l Z a0 EL tbl n0 code maxL ret R own mname Q h cells slots pc' L S) (kn : ¬ x < y → G l Z a0 EL tbl n0 code maxL ret R own mname Q h cells slots (pc + 3) L S) : G l Z a0 EL tbl n0 code maxL ret R own mname Q h cells slots pc L (.int y :: .int x :: S) := by
  by_cases z : x < y
  · exact G.icmp (cd := .lt) hd ho hp (fun _ => ky z) (fun q => absurd q (by rw [XT.ii_lt_t z]; decide))
  · exact G.icmp (cd := .lt) hd ho hp (fun q => absurd q (by rw [XT.ii_lt_f z]; decide)) (fun _ => kn z)
theorem G.icge {o : Int} {x y : Int32} {pc' : Nat} (hd : decode code pc = .ok (.if_icmp .ge o, 3)) (ho : 0 ≤ (pc : Int) + o) (hp : ((pc : Int) + o).toNat = pc')
    (ky : ¬ x < y → G l Z a0 EL tbl n0 code maxL ret R own mname Q h cells slots pc' L S) (kn : x < y → G l Z a0 EL tbl n0 code maxL ret R own mname Q h cells slots (pc + 3) L S) : G l Z a0 EL tbl n0 code maxL ret R own mname Q h cells slots pc L (.int y :: .int x :: S) := by
  by_cases z : x < y
  · exact G.icmp (cd := .ge) hd ho hp (fun q => absurd q (by rw [XT.ii_ge_f z]; decide)) (fun _ => kn z)
  · exact G.icmp (cd := .ge) hd ho hp (fun _ => ky z) (fun q => absurd q (by rw [XT.ii_ge_t z]; decide))
theorem G.icgt {o : Int} {x y : Int32} {pc' : Nat} (hd : decode code pc = .ok (.if_icmp .gt o, 3)) (ho : 0 ≤ (pc : Int) + o) (hp : ((pc : Int) + o).toNat = pc')
    (ky : y < x → G l Z a0 EL tbl n0 code maxL ret R own mname Q h cells slots pc' L S) (kn : ¬ y < x → G l Z a0 EL tbl n0 code maxL ret R own mname Q h cells slots (pc + 3) L S) : G l Z a0 EL tbl n0 code maxL ret R own mname Q h cells slots pc L (.int y :: .int x :: S) := by
  by_cases z : y < x
  · exact G.icmp (cd := .gt) hd ho hp (fun _ => ky z) (fun q => absurd q (by rw [XT.ii_gt_t z]; decide))
  · exact G.icmp (cd := .gt) hd ho hp (fun q => absurd q (by rw [XT.ii_gt_f z]; decide)) (fun _ => kn z)
theorem G.icle {o : Int} {x y : Int32} {pc' : Nat} (hd : decode code pc = .ok (.if_icmp .le o, 3)) (ho : 0 ≤ (pc : Int) + o) (hp : ((pc : Int) + o).toNat = pc')
    (ky : ¬ y < x → G l Z a0 EL tbl n0 code maxL ret R own mname Q h cells slots pc' L S) (kn : y < x → G l Z a0 EL tbl n0 code maxL ret R own mname Q h cells slots (pc + 3) L S) : G l Z a0 EL tbl n0 code maxL ret R own mname Q h cells slots pc L (.int y :: .int x :: S) := by
  by_cases z : y < x
  · exact G.icmp (cd := .le) hd ho hp (fun q => absurd q (by rw [XT.ii_le_f z]; decide)) (fun _ => kn z)
  · exact G.icmp (cd := .le) hd ho hp (fun _ => ky z) (fun q => absurd q (by rw [XT.ii_le_t z]; decide))
theorem G.nulljmp {o : Int} {w : Value} {pc' : Nat} (hw : w.isRef = true) (hd : decode code pc = .ok (.ifnull o, 3)) (ho : 0 ≤ (pc : Int) + o) (hp : ((pc : Int) + o).toNat = pc')
    (ky : w = .null → G l Z a0 EL tbl n0 code maxL ret R own mname Q h cells slots pc' L S) (kn : ¬ w = .null → G l Z a0 EL tbl n0 code maxL ret R own mname Q h cells slots (pc + 3) L S) : G l Z a0 EL tbl n0 code maxL ret R own mname Q h cells slots pc L (w :: S) := by
  intro p e s m args below meth c T vm0 k0 locs P
  obtain ⟨hx, hby, -, -, -, -, -, -, X, -⟩ := id P
  rcases ref_cases hw with rfl | ⟨a, rfl⟩
  · exact back_steps (fun t ht => XS.ifnullYes X.here hx rfl (pc0 := pc) rfl (hb hby hd) rfl ho hp ht) (ky rfl p e s m args below meth c T vm0 k0 locs P)
  · exact back_steps (fun t ht => XS.ifnullNo X.here hx rfl (hb hby hd) rfl ht) (kn (fun q => nomatch q) p e s m args below meth c T vm0 k0 locs P)
theorem G.nonnulljmp {o : Int} {w : Value} {pc' : Nat} (hw : w.isRef = true) (hd : decode code pc = .ok (.ifnonnull o, 3)) (ho : 0 ≤ (pc : Int) + o) (hp : ((pc : Int) + o).toNat = pc')
    (ky : ¬ w = .null → G l Z a0 EL tbl n0 code maxL ret R own mname Q h cells slots pc' L S) (kn : w = .null → G l Z a0 EL tbl n0 code maxL ret R own mname Q h cells slots (pc + 3) L S) : G l Z a0 EL tbl n0 code maxL ret R own mname Q h cells slots pc L (w :: S) := by
  intro p e s m args below meth c T vm0 k0 locs P
  obtain ⟨hx, hby, -, -, -, -, -, -, X, -⟩ := id P
  rcases ref_cases hw with rfl | ⟨a, rfl⟩
  · exact back_steps (fun t ht => XT.ifnonnullNo X.here hx rfl (hb hby hd) rfl ht) (kn rfl p e s m args below meth c T vm0 k0 locs P)
  · exact back_steps (fun t ht => XT.ifnonnullYes X.here hx rfl (pc0 := pc) rfl (hb hby hd) rfl ho hp ht) (ky (fun q => nomatch q) p e s m args below meth c T vm0 k0 locs P)
theorem G.acne {o : Int} {x y : Value} {pc' : Nat} (hx1 : x.isRef = true) (hy1 : y.isRef = true) (hd : decode code pc = .ok (.if_acmp .ne o, 3)) (ho : 0 ≤ (pc : Int) + o) (hp : ((pc : Int) + o).toNat = pc')
    (ky : ¬ x = y → G l Z a0 EL tbl n0 code maxL ret R own mname Q h cells slots pc' L S) (kn : x = y → G l Z a0 EL tbl n0 code maxL ret R own mname Q h cells slots (pc + 3) L S) : G l Z a0 EL tbl n0 code maxL ret R own mname Q h cells slots pc L (y :: x :: S) := by
  intro p e s m args below meth c T vm0 k0 locs P
  obtain ⟨hx, hby, -, -, -, -, -, -, X, -⟩ := id P
  by_cases z : x = y
  · exact back_steps (fun t ht => XT.acmpNo X.here hx rfl (hb hby hd) rfl hx1 hy1 (XT.aa_ne_f z) ht) (kn z p e s m args below meth c T vm0 k0 locs P)
  · exact back_steps (fun t ht => XT.acmpYes X.here hx rfl (pc0 := pc) rfl (hb hby hd) rfl hx1 hy1 (XT.aa_ne_t z) ho hp ht) (ky z p e s m args below meth c T vm0 k0 locs P)
theorem G.aceq {o : Int} {x y : Value} {pc' : Nat} (hx1 : x.isRef = true) (hy1 : y.isRef = true) (hd : decode code pc = .ok (.if_acmp .eq o, 3)) (ho : 0 ≤ (pc : Int) + o) (hp : ((pc : Int) + o).toNat = pc')
    (ky : x = y → G l Z a0 EL tbl n0 code maxL ret R own mname Q h cells slots pc' L S) (kn : ¬ x = y → G l Z a0 EL tbl n0 code maxL ret R own mname Q h cells slots (pc + 3) L S) : G l Z a0 EL tbl n0 code maxL ret R own mname Q h cells slots pc L (y :: x :: S) := by
  intro p e s m args below meth c T vm0 k0 locs P
  obtain ⟨hx, hby, -, -, -, -, -, -, X, -⟩ := id P
  by_cases z : x = y
  · exact back_steps (fun t ht => XT.acmpYes X.here hx rfl (pc0 := pc) rfl (hb hby hd) rfl hx1 hy1 (XT.aa_eq_t z) ho hp ht) (ky z p e s m args below meth c T vm0 k0 locs P)
  · exact back_steps (fun t ht => XT.acmpNo X.here hx rfl (hb hby hd) rfl hx1 hy1 (XT.aa_eq_f z) ht) (kn z p e s m args below meth c T vm0 k0 locs P)
/-! the heap -/
theorem safe_nil {vm : Vm} {a : Addr} (q : EL = []) : Safe Z EL vm h a := fun B => by
  obtain ⟨p, hp, -⟩ := B
  rw [q] at hp; cases hp
theorem G.new {C : String} {idx n : Nat} (hd : decode code pc = .ok (.new idx, 3)) (w1 : Jvm.Cond.classLink own idx C ∈ tbl) (w2 : Jvm.Cond.instantiable C n ∈ tbl) (w3 : Jvm.Cond.initialized C ∈ tbl) (hc : cells + 1 ≤ R.cells) (hl : slots + n ≤ R.slots)
    (k : ∀ h' a, a = h.size → n0 ≤ a → Keep h h' [] → Exa Z h' a C → (∀ {O nm d : String} {ty : FieldType}, (Jvm.Cond.lays C O nm d ∈ tbl ∨ Jvm.Cond.laysFinal C O nm d ∈ tbl) → parseFieldDescriptor d = some ty → Fld Z h' a O nm d (defaultValue ty)) → G l Z a0 EL tbl n0 code maxL ret R own mname Q h' (cells + 1) (slots + n) (pc + 3) L (.ref a :: S)) :
    G l Z a0 EL tbl n0 code maxL ret R own mname Q h cells slots pc L S := by
  intro p e s m args below meth c T vm0 k0 locs P
  obtain ⟨hx, hby, hml, hret, hlk, hnm, hEL, hw, X, eT, hS, hk, hZ, hown, N, H, O, Wm⟩ := P
  obtain ⟨T', h', X', e', E, A, D, -, st⟩ := newO X hx hZ hown (hw _ w1) (hw _ w2) (hw _ w3) eT (g := mkF m pc L S) rfl (hb hby hd) hc hl
  exact back_steps st (k h' h.size rfl (O.1 ▸ O.2.1) ((Keep.refl h []).ext E) A (fun q => D (q.imp (hw _) (hw _))) p e s m args below meth c T' vm0 k0 locs ⟨hx, hby, hml, hret, hlk, hnm, hEL, hw, X', e', hS, Nat.le_trans hk E.1, hZ, hown, N, H.trans (CHr.ext E H.1), O.ext E, Wm⟩)
theorem G.newarr {aty : ArrayType} {ty : FieldType} {n : Int32} {cap : Nat} (hty : newarray.typeOf aty = ty) (hd : decode code pc = .ok (.newarray aty, 2)) (w : Jvm.Cond.arrayClass ty ∈ tbl) (hn : ¬ n < 0) (hcap : n.toNatClampNeg ≤ cap) (hb8 : cap * 8 ≤ 536870912) (hc : cells + 1 ≤ R.cells) (hl : slots + cap ≤ R.slots)
    (k : ∀ h' a kA, a = h.size → n0 ≤ a → Keep h h' [] → Arv Z h' a kA ty n (List.replicate cap (defaultValue ty)) (defaultValue ty) → G l Z a0 EL tbl n0 code maxL ret R own mname Q h' (cells + 1) (slots + cap) (pc + 2) L (.ref a :: S)) :
    G l Z a0 EL tbl n0 code maxL ret R own mname Q h cells slots pc L (.int n :: S) := by
  subst hty
  intro p e s m args below meth c T vm0 k0 locs P
  obtain ⟨hx, hby, hml, hret, hlk, hnm, hEL, hw, X, eT, hS, hk, hZ, hown, N, H, O, Wm⟩ := P
  obtain ⟨T', h', cA, X', e', E, A, st⟩ := newP X hx hZ (hw _ w) eT (g := mkF m pc L (.int n :: S)) rfl (hb hby hd) rfl hn hcap hb8 hc hl
  exact back_steps st (k h' h.size cA rfl (O.1 ▸ O.2.1) ((Keep.refl h []).ext E) ((Arv.new A hn).pad (fun i => by simpa using pad_rep [] (defaultValue (newarray.typeOf aty)) cap i)) p e s m args below meth c T' vm0 k0 locs ⟨hx, hby, hml, hret, hlk, hnm, hEL, hw, X', e', hS, Nat.le_trans hk E.1, hZ, hown, N, H.trans (CHr.ext E H.1), O.ext E, Wm⟩)
theorem G.castore {a : Addr} {kA : ClassId} {z j x x' : Int32} {vs : List Value} {dv : Value} {i : Nat} (hd : decode code pc = .ok (.castore, 1)) (A : Arv Z h a kA .char z vs dv) (ha : n0 ≤ a) (hj : ¬ j < 0 ∧ j < z) (hi : j.toNatClampNeg = i) (hlen : i < vs.length) (hx' : nar .char x = x')
    (k : ∀ h', Keep h h' [a] → Arv Z h' a kA .char z (vs.set i (.int x')) dv → G l Z a0 EL tbl n0 code maxL ret R own mname Q h' cells slots (pc + 1) L S) :
    G l Z a0 EL tbl n0 code maxL ret R own mname Q h cells slots pc L (.int x :: .int j :: .ref a :: S) := by
  subst hx'
  intro p e s m args below meth c T vm0 k0 locs P
  obtain ⟨hx, hby, hml, hret, hlk, hnm, hEL, hw, X, eT, hS, hk, hZ, hown, N, H, O, Wm⟩ := P
  obtain ⟨cl, A1, A2, A3, A4, A5, A6⟩ := A
  obtain ⟨T', h', X', e', W, st⟩ := stC X hx hZ eT A1 (inb_of A3 hj) (g := mkF m pc L (.int x :: .int j :: .ref a :: S)) rfl rfl (hb hby hd)
  have sf : Safe Z EL vm0 h a := Safe.arr (Z := Z) hZ.alike A1 (by decide)
  exact back_steps st (k h' (Keep.of_wr W) (Arv.set A1 A2 A3 A4 A5 A6 (fits_nar_char x) W i hi hlen) p e s m args below meth c T' vm0 k0 _ ⟨hx, hby, hml, hret, hlk, hnm, hEL, hw, X', e', hS, by rw [W.size]; exact hk, hZ, hown, Fr.snoc X' N ha, H.trans (CHr.wr W sf H.1), O.wr W ha, Wm⟩)
theorem G.getF {a : Addr} {O nm d : String} {v : Value} {idx : Nat} (hd : decode code pc = .ok (.getfield idx, 3)) (w : Jvm.Cond.fieldLink own idx O nm d ∈ tbl) (F : Fld Z h a O nm d v)
    (k : G l Z a0 EL tbl n0 code maxL ret R own mname Q h cells slots (pc + 3) L (v :: S)) : G l Z a0 EL tbl n0 code maxL ret R own mname Q h cells slots pc L (.ref a :: S) := by
  intro p e s m args below meth c T vm0 k0 locs P
  obtain ⟨hx, hby, hml, hret, hlk, hnm, hEL, hw, X, eT, hS, hk, hZ, hown, N, H, O, Wm⟩ := P
  obtain ⟨T', X', e', st⟩ := Jvm.RoadKit.getF X hx hZ hown (host := "") (Or.inl (hw _ w)) Via.refl eT F (g := mkF m pc L (.ref a :: S)) rfl rfl (hb hby hd)
  exact back_steps st (k p e s m args below meth c T' vm0 k0 locs ⟨hx, hby, hml, hret, hlk, hnm, hEL, hw, X', e', hS, hk, hZ, hown, N, H, O, Wm⟩)
theorem G.putF {a : Addr} {C O nm d : String} {v old : Value} {idx kk : Nat} {ty : FieldType} (hd : decode code pc = .ok (.putfield idx, 3)) (w : Jvm.Cond.fieldLink own idx O nm d ∈ tbl) (F : Fld Z h a O nm d old) (E : Exa Z h a C)
    (wl : Jvm.Cond.lays C O nm d ∈ tbl ∨ (Jvm.Cond.laysFinal C O nm d ∈ tbl ∧ own = O ∧ mname = "<init>")) (wi : Jvm.Cond.instantiable C kk ∈ tbl) (hty : parseFieldDescriptor d = some ty) (hn : narrow ty v = v) (hf : fits ty v = true) (ha : n0 ≤ a) (hc : EL = [] ∨ (C ≠ "java/lang/String" ∧ C ≠ "[B"))
    (k : ∀ h', Wr h h' a (Jvm.RoadKit.slotOf Z O nm d) v → Keep h h' [a] → Fld Z h' a O nm d v → Exa Z h' a C → G l Z a0 EL tbl n0 code maxL ret R own mname Q h' cells slots (pc + 3) L S) :
    G l Z a0 EL tbl n0 code maxL ret R own mname Q h cells slots pc L (v :: .ref a :: S) := by
  intro p e s m args below meth c T vm0 k0 locs P
  obtain ⟨hx, hby, hml, hret, hlk, hnm, hEL, hw, X, eT, hS, hk, hZ, hown, N, H, O, Wm⟩ := P
  obtain ⟨T', h', X', e', W, st⟩ := Jvm.RoadKit.putF X hx hZ hown (host := "") (Or.inl (hw _ w)) Via.refl eT F E (wl.imp (hw _) fun q => ⟨hw _ q.1, q.2.1, hnm.trans q.2.2⟩) (hw _ wi) hty hn hf (g := mkF m pc L (v :: .ref a :: S)) rfl rfl (hb hby hd)
  have sf : Safe Z EL vm0 h a := hc.elim (fun q => safe_nil q) fun q => Safe.exa (Z := Z) hZ.alike E q.1 q.2
  exact back_steps st (k h' W (Keep.of_wr W) (F.same W) (E.wr W) p e s m args below meth c T' vm0 k0 _ ⟨hx, hby, hml, hret, hlk, hnm, hEL, hw, X', e', hS, by rw [W.size]; exact hk, hZ, hown, Fr.snoc X' N ha, H.trans (CHr.wr W sf H.1), O.wr W ha, Wm⟩)
theorem G.getS {O nm d : String} {v : Value} {idx : Nat} (hd : decode code pc = .ok (.getstatic idx, 3)) (w : Jvm.Cond.fieldLink own idx O nm d ∈ tbl) (F : Sta Z Z.heap O nm d v)
    (k : G l Z a0 EL tbl n0 code maxL ret R own mname Q h cells slots (pc + 3) L (v :: S)) : G l Z a0 EL tbl n0 code maxL ret R own mname Q h cells slots pc L S := by
  intro p e s m args below meth c T vm0 k0 locs P
  obtain ⟨hx, hby, hml, hret, hlk, hnm, hEL, hw, X, eT, hS, hk, hZ, hown, N, H, O, Wm⟩ := P
  obtain ⟨T', X', e', st⟩ := Jvm.RoadKit.getS (host := "") X hx hZ hown (hw _ w) Via.refl eT (F.ext O.2) (g := mkF m pc L S) rfl (hb hby hd)
  exact back_steps st (k p e s m args below meth c T' vm0 k0 locs ⟨hx, hby, hml, hret, hlk, hnm, hEL, hw, X', e', hS, hk, hZ, hown, N, H, O, Wm⟩)
theorem G.getSN {O nm d host : String} {v : Value} {idx : Nat} (hd : decode code pc = .ok (.getstatic idx, 3)) (w : Jvm.Cond.fieldLinkNest own idx O nm d host ∈ tbl) (F : Sta Z Z.heap O nm d v)
    (k : G l Z a0 EL tbl n0 code maxL ret R own mname Q h cells slots (pc + 3) L (v :: S)) : G l Z a0 EL tbl n0 code maxL ret R own mname Q h cells slots pc L S := by
  intro p e s m args below meth c T vm0 k0 locs P
  obtain ⟨hx, hby, hml, hret, hlk, hnm, hEL, hw, X, eT, hS, hk, hZ, hown, N, H, O, Wm⟩ := P
  obtain ⟨T', X', e', st⟩ := Jvm.RoadKit.getS2 (host := host) X hx hZ hown (Or.inr (hw _ w)) Via.refl eT (F.ext O.2) (g := mkF m pc L S) rfl (hb hby hd)
  exact back_steps st (k p e s m args below meth c T' vm0 k0 locs ⟨hx, hby, hml, hret, hlk, hnm, hEL, hw, X', e', hS, hk, hZ, hown, N, H, O, Wm⟩)
theorem G.initO {a : Addr} {idx W : Nat} (hd : decode code pc = .ok (.invokespecial idx, 3)) (w1 : Jvm.Cond.methodLink own idx Lib.objectInit ∈ tbl) (w2 : Jvm.Cond.instanceMethod Lib.objectInit ∈ tbl) (w3 : Jvm.Cond.code Lib.objectInit ⟨#[0xb1]⟩ 1 none ∈ tbl) (hsz : L.size = maxL) (hf : 1 ≤ R.frames) (hW : 2 * 0 + (S.map fun v => v.category).sum ≤ W) (hl : W + 12 ≤ R.locals)
    (k : G l Z a0 EL tbl n0 code maxL ret R own mname Q h cells slots (pc + 3) L S) : G l Z a0 EL tbl n0 code maxL ret R own mname Q h cells slots pc L (.ref a :: S) := by
  intro p e s m args below meth c T vm0 k0 locs P
  obtain ⟨hx, hby, hml, hret, hlk, hnm, hEL, hw, X, eT, hS, hk, hZ, hown, N, H, O, Wm⟩ := P
  obtain ⟨T', X', e', st⟩ := Jvm.RoadKit.initO X hx hZ hown (hw _ w1) (hw _ w2) (hw _ w3) eT (g := mkF m pc L (.ref a :: S)) rfl (hsz.trans hml.symm) rfl (hb hby hd) hf hW hl
  exact back_steps st (k p e s m args below meth c T' vm0 k0 locs ⟨hx, hby, hml, hret, hlk, hnm, hEL, hw, X', e', hS, hk, hZ, hown, N, H, O, Wm⟩)
theorem G.castY {a : Addr} {K : String} {idx : Nat} (hd : decode code pc = .ok (.checkcast idx, 3)) (w : Jvm.Cond.classLink own idx K ∈ tbl) (F : Ins Z h a K true)
    (k : G l Z a0 EL tbl n0 code maxL ret R own mname Q h cells slots (pc + 3) L (.ref a :: S)) : G l Z a0 EL tbl n0 code maxL ret R own mname Q h cells slots pc L (.ref a :: S) := by
  intro p e s m args below meth c T vm0 k0 locs P
  obtain ⟨hx, hby, hml, hret, hlk, hnm, hEL, hw, X, eT, hS, hk, hZ, hown, N, H, O, Wm⟩ := P
  obtain ⟨T', X', e', st⟩ := Jvm.RoadKit.castY X hx hZ hown (hw _ w) eT F (g := mkF m pc L (.ref a :: S)) rfl rfl (hb hby hd)
  exact back_steps st (k p e s m args below meth c T' vm0 k0 locs ⟨hx, hby, hml, hret, hlk, hnm, hEL, hw, X', e', hS, hk, hZ, hown, N, H, O, Wm⟩)
theorem G.instY {a : Addr} {K : String} {idx : Nat} (hd : decode code pc = .ok (.instanceof idx, 3)) (w : Jvm.Cond.classLink own idx K ∈ tbl) (F : Ins Z h a K true)
    (k : G l Z a0 EL tbl n0 code maxL ret R own mname Q h cells slots (pc + 3) L (.int 1 :: S)) : G l Z a0 EL tbl n0 code maxL ret R own mname Q h cells slots pc L (.ref a :: S) := by
  intro p e s m args below meth c T vm0 k0 locs P
  obtain ⟨hx, hby, hml, hret, hlk, hnm, hEL, hw, X, eT, hS, hk, hZ, hown, N, H, O, Wm⟩ := P
  obtain ⟨T', X', e', st⟩ := Jvm.RoadKit.instY X hx hZ hown (hw _ w) eT F (g := mkF m pc L (.ref a :: S)) rfl rfl (hb hby hd)
  exact back_steps st (k p e s m args below meth c T' vm0 k0 locs ⟨hx, hby, hml, hret, hlk, hnm, hEL, hw, X', e', hS, hk, hZ, hown, N, H, O, Wm⟩)
theorem G.ldcO {idx n : Nat} {text : String} (hne : EL ≠ []) (hd : decode code pc = .ok (.ldc idx, 2)) (w : Jvm.Cond.stringLink own idx text ∈ tbl) (wS : ∀ d ∈ Bundle.stringAtoms, d ∈ tbl) (hn : 4 * text.toList.length ≤ n) (hbig : n ≤ 536870912) (hc : cells + 2 ≤ R.cells) (hl : slots + (n + 4) ≤ R.slots)
    (k : ∀ h' a, Keep h h' [] → G l Z a0 EL tbl n0 code maxL ret R own mname Q h' (cells + 2) (slots + (n + 4)) (pc + 2) L (.ref a :: S)) : G l Z a0 EL tbl n0 code maxL ret R own mname Q h cells slots pc L S := by
  intro p e s m args below meth c T vm0 k0 locs P
  obtain ⟨hx, hby, hml, hret, hlk, hnm, hEL, hw, X, eT, hS, hk, hZ, hown, N, H, O, Wm⟩ := P
  obtain ⟨a, T', h', k1, X', e', E, S', hk', Z', o', C', -, st⟩ := ldcOH X hx hZ hown (hw _ w) (fun d hd => hw d (wS d hd)) eT hS hk hEL H.1 (g := mkF m pc L S) rfl (hb hby hd) hn hbig hc hl
  exact back_steps st (k h' a ((Keep.refl h []).ext E) p e s m args below meth c T' T'.vm k1 locs ⟨hx, hby, hml, hret, hlk, hnm, hEL, hw, X', e', S', hk', Z', o', N, H.trans C', O.ext E, fun q => absurd q hne⟩)
theorem G.ldcC {idx n : Nat} {text : String} {vs : List Value} {z : Int32} (hne : EL ≠ []) (hd : decode code pc = .ok (.ldc idx, 2)) (w : Jvm.Cond.stringLink own idx text ∈ tbl) (wS : ∀ d ∈ Bundle.stringAtoms, d ∈ tbl) (hmem : (own, idx) ∈ EL) (ht : (∀ c ∈ text.toList, c.toNat < 256) ∧ text.toList.map (fun c => Value.int (Jvm.Lit.byteI c.toNat.toUInt16)) = vs) (hz : ¬ z < 0) (hzl : z.toNatClampNeg = vs.length)
    (hn : 4 * text.toList.length ≤ n) (hbig : n ≤ 536870912) (hc : cells + 2 ≤ R.cells) (hl : slots + (n + 4) ≤ R.slots)
    (k : ∀ h' a b kb, Keep h h' [] → Exa Z h' a "java/lang/String" → Fld Z h' a "java/lang/String" "coder" "B" (.int 0) → Fld Z h' a "java/lang/String" "value" "[B" (.ref b) → Arv Z h' b kb .byte z vs (.int 0) → G l Z a0 EL tbl n0 code maxL ret R own mname Q h' (cells + 2) (slots + (n + 4)) (pc + 2) L (.ref a :: S)) : G l Z a0 EL tbl n0 code maxL ret R own mname Q h cells slots pc L S := by
  intro p e s m args below meth c T vm0 k0 locs P
  obtain ⟨hx, hby, hml, hret, hlk, hnm, hEL, hw, X, eT, hS, hk, hZ, hown, N, H, O, Wm⟩ := P
  obtain ⟨a, T', h', k1, b, kb, X', e', E, S', hk', Z', o', Ea, Ca, Va, Ab, -, -, C', -, -, st⟩ := ldcCH X hx hZ hown (hw _ w) (fun d hd => hw d (wS d hd)) eT hS hk hEL hmem H.1 ht hz hzl (g := mkF m pc L S) rfl (hb hby hd) hn hbig hc hl
  exact back_steps st (k h' a b kb ((Keep.refl h []).ext E) Ea Ca Va Ab p e s m args below meth c T' T'.vm k1 locs ⟨hx, hby, hml, hret, hlk, hnm, hEL, hw, X', e', S', hk', Z', o', N, H.trans C', O.ext E, fun q => absurd q hne⟩)
theorem G.castN {idx : Nat} (hd : decode code pc = .ok (.checkcast idx, 3)) (k : G l Z a0 EL tbl n0 code maxL ret R own mname Q h cells slots (pc + 3) L (.null :: S)) : G l Z a0 EL tbl n0 code maxL ret R own mname Q h cells slots pc L (.null :: S) := by
  intro p e s m args below meth c T vm0 k0 locs P
  obtain ⟨hx, hby, -, -, -, -, -, -, X, -⟩ := id P
  exact back_steps (X.checkcastNull hx (g := mkF m pc L (.null :: S)) rfl rfl (hb hby hd)) (k p e s m args below meth c T vm0 k0 locs P)
theorem G.instNull {idx : Nat} (hd : decode code pc = .ok (.instanceof idx, 3)) (k : G l Z a0 EL tbl n0 code maxL ret R own mname Q h cells slots (pc + 3) L (.int 0 :: S)) : G l Z a0 EL tbl n0 code maxL ret R own mname Q h cells slots pc L (.null :: S) := by
  intro p e s m args below meth c T vm0 k0 locs P
  obtain ⟨hx, hby, -, -, -, -, -, -, X, -⟩ := id P
  exact back_steps (X.instanceofNull hx (g := mkF m pc L (.null :: S)) rfl rfl (hb hby hd)) (k p e s m args below meth c T vm0 k0 locs P)
theorem G.instNo {a : Addr} {C K : String} {idx : Nat} (hd : decode code pc = .ok (.instanceof idx, 3)) (w : Jvm.Cond.classLink own idx K ∈ tbl) (E : Exa Z h a C) (F : ∃ c t, Z.vm.findClass C = some c ∧ Z.vm.findClass K = some t ∧ Z.vm.assignable c t = false)
    (k : G l Z a0 EL tbl n0 code maxL ret R own mname Q h cells slots (pc + 3) L (.int 0 :: S)) : G l Z a0 EL tbl n0 code maxL ret R own mname Q h cells slots pc L (.ref a :: S) := by
  intro p e s m args below meth c T vm0 k0 locs P
  obtain ⟨hx, hby, hml, hret, hlk, hnm, hEL, hw, X, eT, hS, hk, hZ, hown, N, H, O, Wm⟩ := P
  obtain ⟨T', X', e', st⟩ := Jvm.RoadKit.instNo X hx hZ hown (hw _ w) eT E F (g := mkF m pc L (.ref a :: S)) rfl rfl (hb hby hd)
  exact back_steps st (k p e s m args below meth c T' vm0 k0 locs ⟨hx, hby, hml, hret, hlk, hnm, hEL, hw, X', e', hS, hk, hZ, hown, N, H, O, Wm⟩)
theorem past {C O n d O' n' d' : String} {t t' : FieldType} {a : Addr} {v v' : Value} (hw : ∀ d ∈ tbl, d.before a0 Z = true) (L1 : Jvm.Cond.lays C O n d ∈ tbl ∨ Jvm.Cond.laysFinal C O n d ∈ tbl) (L2 : Jvm.Cond.lays C O' n' d' ∈ tbl ∨ Jvm.Cond.laysFinal C O' n' d' ∈ tbl) (hn : n ≠ n') (ht : parseFieldDescriptor d = some t) (ht' : parseFieldDescriptor d' = some t')
    (W : Wr h h' a (Jvm.RoadKit.slotOf Z O' n' d') v') (F : Fld Z h a O n d v) : Fld Z h' a O n d v := F.other W (Or.inr (Jvm.RoadKit.slot_ne (a0 := a0) (L1.imp (hw _) (hw _)) (L2.imp (hw _) (hw _)) hn ht ht'))
/-- an object of C (whose superclass is O, which has none) is none of K, K an ordinary class -/
theorem not_inst {C O K : String} {n : Nat} (w1 : (Jvm.Cond.superclass C O).before a0 Z = true) (w2 : (Jvm.Cond.noSuperclass O).before a0 Z = true) (w3 : (Jvm.Cond.instantiable K n).before a0 Z = true) (h1 : C ≠ K) (h2 : O ≠ K) : ∃ c t, Z.vm.findClass C = some c ∧ Z.vm.findClass K = some t ∧ Z.vm.assignable c t = false := by
  obtain ⟨t, k', g0, g2, g5, g7x, -⟩ := Cond.instantiable_spec w3
  have g7 := (Bool.or_eq_false_iff.mp g7x).1
  obtain ⟨o, ko, r1, r2, r3, -, -⟩ := Cond.noSuperclass_spec w2
  obtain ⟨c, h0⟩ := found_sup w1
  obtain ⟨p, k, kp, q1, q2, q3, q4, q5, -, q7⟩ := Cond.superclass_spec h0 w1
  cases r1.symm.trans q1
  have e1 := ids_ne h0 g0 h1
  have e2 := ids_ne r1 g0 h2
  have ns : ∀ fuel, Z.vm.isSubclassAux fuel c t = false := fun fuel => by
    cases fuel with
    | zero => rfl
    | succ f => cases f with
      | zero => simp [Vm.isSubclassAux, e1, q2, q4]
      | succ f => simp [Vm.isSubclassAux, e1, q2, q4, e2, r2, r3]
  refine ⟨c, t, h0, g0, ?_⟩
  show Z.vm.assignableAux (255 + 1) c t = false
  simp [Vm.assignableAux, e1, q2, g2, q5, g5, g7, Vm.isSubclass, ns]
theorem G.aloadVn {k : Fin 4} {v : Value} (hd : decode code pc = .ok (.aload_n k, 1)) (hl : L[k.val]? = some (.val v)) (hv : v.isRef = true) (kk : G l Z a0 EL tbl n0 code maxL ret R own mname Q h cells slots (pc + 1) L (v :: S)) : G l Z a0 EL tbl n0 code maxL ret R own mname Q h cells slots pc L S := by
  intro p e s m args below meth c T vm0 k0 locs P
  obtain ⟨hx, hby, -, -, -, -, -, -, X, -⟩ := id P
  exact back_steps (fun t ht => XS.aloadN X.here hx rfl (hb hby hd) hl hv ht) (kk p e s m args below meth c T vm0 k0 locs P)
theorem G.aloadV {k : Nat} {v : Value} (hd : decode code pc = .ok (.aload k, 2)) (hl : L[k]? = some (.val v)) (hv : v.isRef = true) (kk : G l Z a0 EL tbl n0 code maxL ret R own mname Q h cells slots (pc + 2) L (v :: S)) : G l Z a0 EL tbl n0 code maxL ret R own mname Q h cells slots pc L S := by
  intro p e s m args below meth c T vm0 k0 locs P
  obtain ⟨hx, hby, -, -, -, -, -, -, X, -⟩ := id P
  exact back_steps (fun t ht => XS.aload X.here hx rfl (hb hby hd) hl hv ht) (kk p e s m args below meth c T vm0 k0 locs P)
theorem G.astoreVn {k : Fin 4} {v : Value} {L' : Array Slot} (hd : decode code pc = .ok (.astore_n k, 1)) (hv : v.isRef = true) (hl : storeLocals L k.val v = some L') (kk : G l Z a0 EL tbl n0 code maxL ret R own mname Q h cells slots (pc + 1) L' S) : G l Z a0 EL tbl n0 code maxL ret R own mname Q h cells slots pc L (v :: S) := by
  intro p e s m args below meth c T vm0 k0 locs P
  obtain ⟨hx, hby, -, -, -, -, -, -, X, -⟩ := id P
  exact back_steps (fun t ht => XS.astoreN X.here hx rfl (hb hby hd) rfl hv hl ht) (kk p e s m args below meth c T vm0 k0 locs P)
theorem G.astoreV {k : Nat} {v : Value} {L' : Array Slot} (hd : decode code pc = .ok (.astore k, 2)) (hv : v.isRef = true) (hl : storeLocals L k v = some L') (kk : G l Z a0 EL tbl n0 code maxL ret R own mname Q h cells slots (pc + 2) L' S) : G l Z a0 EL tbl n0 code maxL ret R own mname Q h cells slots pc L (v :: S) := by
  intro p e s m args below meth c T vm0 k0 locs P
  obtain ⟨hx, hby, -, -, -, -, -, -, X, -⟩ := id P
  exact back_steps (fun t ht => XS.astore X.here hx rfl (hb hby hd) rfl hv hl ht) (kk p e s m args below meth c T vm0 k0 locs P)
theorem kwk {ws : List Addr} (K : Keep h h' []) : Keep h h' ws := ⟨K.1, fun x c q _ => K.2.1 x c q nin0, K.2.2⟩
/-! ## 3. Calls -/
/-- a contract: the method y, at the arguments as and the heap h, ends with Q -/
def Ct (l : Launch) (Z : State) (a0 : Array Value) (EL : List (String × Nat)) (tbl ws : List Jvm.Cond) (n0 : Nat) (y : MethodName) (bytes : ByteArray) (maxL : Nat) (ret : Option FieldType) (rm : Room) (as : Array Value) (h : Heap) (Q : Option Value → Heap → Prop) : Prop :=
  EW Z a0 EL → (∀ d ∈ tbl, d.before a0 Z = true) → Old Z n0 h → MetFree l y (head1 (Jvm.Cond.code y bytes maxL ret :: ws) rm) (fun a U => a = as ∧ Z.Warmed39 U.vm ∧ U.heap = h ∧ CHv Z EL U.vm h) (fun _ _ _ _ _ => True) (fun _ U o U' => End Z EL n0 rm Q U o U')
theorem Ct.of_body {ws : List Jvm.Cond} {y : MethodName} {bytes : ByteArray} {rm : Room} {as : Array Value} {L0 : Array Slot} (hpn : plainName y.cls = true) (hef : ∀ m, entryFrame m as maxL = mkF m 0 L0 []) (hG : EW Z a0 EL → (∀ d ∈ tbl, d.before a0 Z = true) → Old Z n0 h → G l Z a0 EL tbl n0 bytes maxL ret rm y.cls y.name Q h 0 0 0 L0 []) :
    Ct l Z a0 EL tbl ws n0 y bytes maxL ret rm as h Q := by
  intro hEL hw hO
  refine MetFree.of_bodySF (plainFor_of_name hpn) hisR ?_
  intro p e s m args below meth c s₁ Bd hml0 hP hK
  obtain ⟨rfl, hZ, hh, hCH⟩ := hP
  have X0 : Stand p l e rm s m args below meth c s₁ [] 0 0 := Stand.of_body Bd
  have e0 : s₁.heap = h := by rw [← hh, Bd.state]; rfl
  rw [hef m]
  subst hh
  exact hG hEL hw hO p e s m args below meth c s₁ s.vm 0 [] ⟨Bd.exec, Bd.bytes, hml0, Bd.returns, Bd.notSynchronized, (name_of_methodNamed Bd.named Bd.method).1, hEL, hw, X0, e0, (State.WarmedH.refl s).since 0, Nat.zero_le _, hZ, findClass_of_methodNamed Bd.named, Fr.nil n0, CHr.refl hCH, hO, fun _ => State.WarmedH.refl s⟩
/-- who pays a call -/
def BK (l : Launch) (Z : State) (a0 : Array Value) (EL : List (String × Nat)) (tbl : List Jvm.Cond) (n0 : Nat) (R : Room) (y : MethodName) (len W : Nat) (as : Array Value) (h : Heap) (kc ks : Nat) (Q : Option Value → Heap → Prop) : Prop :=
  ∀ (p : Program) (e : Env) (below : List Frame) (s : State) (args : Array Value) (vm0 : Vm), EW Z a0 EL → (∀ d ∈ tbl, d.before a0 Z = true) → Z.Warmed39 vm0 → CHv Z EL vm0 h → Old Z n0 h →
    BackS l R p e below (s.setVm vm0) args y len W (fun A a => a = as ∧ A.U.heap = h ∧ A.cells + kc ≤ R.cells ∧ A.slots + ks ≤ R.slots)
      (fun A _ v B => ∃ L, (Fr n0 L ∧ Old Z n0 B.U.heap ∧ Q v B.U.heap) ∧ B.locs = A.locs ++ L ∧ B.cells = A.cells + kc ∧ B.slots = A.slots + ks ∧ CHr Z EL vm0 h B.U.vm B.U.heap ∧ (EL = [] → (s.setVm vm0).WarmedH B.U.vm))
theorem Ct.pays {y : MethodName} {bytes : ByteArray} {rm : Room} {as : Array Value} {len W : Nat} (hC : Ct l Z a0 EL tbl [] n0 y bytes maxL ret rm as h Q) (w1 : Jvm.Cond.code y bytes maxL ret ∈ tbl) (w2 : Jvm.Cond.initialized y.cls ∈ tbl) (hf : rm.frames + 1 ≤ R.frames) (hl : W + (maxL + 11) + rm.locals ≤ R.locals) :
    BK l Z a0 EL tbl n0 R y len W as h rm.cells rm.slots Q := fun p e below s args vm0 hEL hw hZ H O =>
  have hU : ∀ (m : MethodId) (meth : Method) (c : Code) (A : Pt), Stand p l e R (s.setVm vm0) m args below meth c A.U A.locs A.cells A.slots → Z.Warmed39 A.U.vm := fun m meth c A Y => wtrans (s := s.setVm vm0) hZ Y.warmed
  BackS.of_freeW (bytes := bytes) (maxL := maxL) (ret := ret) (E := fun _ U o t L k n => k = rm.cells ∧ n = rm.slots ∧ (∃ v, o = .returned v ∧ (Fr n0 L ∧ Old Z n0 t.heap ∧ Q v t.heap)) ∧ CHr Z EL U.vm U.heap t.vm t.heap ∧ (EL = [] → U.WarmedH t.vm)) (hC hEL hw O) hf hl
    (fun m meth c A a Y hp => ⟨by show (Jvm.Cond.and _ .tt).before a A.U = true; rw [Cond.before_and, mv (hU m meth c A Y) (hw _ w1)]; rfl, mv (hU m meth c A Y) (hw _ w1), mv (hU m meth c A Y) (hw _ w2), hp.2.2.1, hp.2.2.2⟩)
    (fun m meth c A a g mk Y hp => ⟨hp.1, hU m meth c A Y, hp.2.1, (CHv.at Y hZ hEL H).1⟩) (fun _ _ _ _ _ _ _ _ _ => trivial)
    (fun _ _ _ _ ⟨v, L, h1, h2, h3, h4, h5⟩ => ⟨L, _, _, h4, rfl, rfl, ⟨v, h1, h2⟩, h3, h5⟩)
    (fun m meth c A a g mk v t L k n Y hp _ _ ⟨e1, e2, ⟨v', e3, e4⟩, e5, e6⟩ => by
      cases e3; subst e1 e2
      refine ⟨L, e4, rfl, rfl, rfl, (CHv.at Y hZ hEL H).trans ?_, fun q => State.WarmedH.trans (t := A.U) Y.warmed (e6 q)⟩
      rw [← hp.2.1]; exact e5)
/-- a law of the library's that interns nothing -/
theorem BK.of_back {y : MethodName} {len W kc ks : Nat} {as : Array Value} {ws : List Addr} (hws : ∀ x ∈ ws, n0 ≤ x) (hsf : ∀ vm, Z.Warmed39 vm → ∀ x ∈ ws, Safe Z EL vm h x)
    (hB : ∀ (p : Program) (e : Env) (below : List Frame) (s : State) (args : Array Value) (vm0 : Vm), (∀ d ∈ tbl, d.before a0 Z = true) → Z.Warmed39 vm0 → Old Z n0 h → Back l R p e below (s.setVm vm0) args y len W (fun A a => a = as ∧ A.U.heap = h ∧ A.cells + kc ≤ R.cells ∧ A.slots + ks ≤ R.slots)
      (fun A _ v B => ∃ L, (Fr n0 L ∧ Keep h B.U.heap ws ∧ Q v B.U.heap) ∧ B.locs = A.locs ++ L ∧ B.cells = A.cells + kc ∧ B.slots = A.slots + ks)) :
    BK l Z a0 EL tbl n0 R y len W as h kc ks Q := by
  intro p e below s args vm0 hEL hw hZ H O m meth c A g ig mk a X hg hsize hdg hW hn hp
  obtain ⟨v, B, X', ⟨L, ⟨q1, q2, q3⟩, q4, q5, q6⟩, hst⟩ := hB p e below s args vm0 hw hZ O m meth c A g ig mk a X hg hsize hdg hW hn hp
  have C1 := CHr.keep q2 (hsf vm0 hZ) H
  exact ⟨v, B, X'.retabled X'.warmed.wide, X'.warmed.since _, by rw [hp.2.1]; exact q2.1, ⟨L, ⟨q1, O.keep q2 hws, q3⟩, q4, q5, q6, C1.trans (CHv.at X' hZ hEL C1.1), fun _ => X'.warmed⟩, hst⟩
/-- a contract that interns nothing (EL empty), paid at any EL -/
theorem Ct.warm {y : MethodName} {bytes : ByteArray} {rm : Room} {as : Array Value} {len W : Nat} {ws : List Addr} (hC : Ct l Z a0 [] tbl [] n0 y bytes maxL ret rm as h Q) (w1 : Jvm.Cond.code y bytes maxL ret ∈ tbl) (w2 : Jvm.Cond.initialized y.cls ∈ tbl) (hf : rm.frames + 1 ≤ R.frames) (hl : W + (maxL + 11) + rm.locals ≤ R.locals)
    (hK : ∀ v h', Q v h' → Keep h h' ws) (hws : ∀ x ∈ ws, n0 ≤ x) (hsf : ∀ vm, Z.Warmed39 vm → ∀ x ∈ ws, Safe Z EL vm h x) : BK l Z a0 EL tbl n0 R y len W as h rm.cells rm.slots Q := by
  refine BK.of_back hws hsf fun p e below s args vm0 hw hZ O => ?_
  have hM : MetFree l y (head1 [Jvm.Cond.code y bytes maxL ret] rm) (fun a U => a = as ∧ Z.Warmed39 U.vm ∧ U.heap = h) (fun _ _ _ _ _ => True) (fun _ U o U' => ∃ v L, o = .returned v ∧ (Fr n0 L ∧ Keep h U'.heap ws ∧ Q v U'.heap) ∧ FrameEnd U o U' L rm.cells rm.slots) := by
    intro p e h1 h2 h3 s m args below hf hap hP hK'
    obtain ⟨n, o, q1, q2, q3, v, L, q4, ⟨q5, q6, q7⟩, q8, q9, q10⟩ := hC EW.nil hw O p e h1 h2 h3 s m args below hf hap ⟨hP.1, hP.2.1, hP.2.2, fun p hp => nomatch hp⟩ hK'
    exact ⟨n, o, q1, q2, q3, v, L, q4, ⟨q5, hK _ _ q7, q7⟩, q9.1, q10 rfl, q9.2.2.2⟩
  exact backOf (s := s.setVm vm0) (Q := fun v hh L => Fr n0 L ∧ Keep h hh ws ∧ Q v hh) hM hZ (hw _ w1) (hw _ w2) hf hl
section Calls
variable {y z : MethodName} {idx W kc ks : Nat} {argsL rest : List Value} {Qc : Option Value → Heap → Prop}
theorem G.static {bytes : ByteArray} {mL : Nat} {rt : Option FieldType} (hd : decode code pc = .ok (.invokestatic idx, 3)) (w1 : Jvm.Cond.methodLink own idx y ∈ tbl) (w2 : Jvm.Cond.static y ∈ tbl) (w3 : Jvm.Cond.initialized y.cls ∈ tbl) (w4 : Jvm.Cond.code y bytes mL rt ∈ tbl) (hy : y.cls ≠ "java/lang/invoke/MethodHandle" ∧ y.cls ≠ "java/lang/invoke/VarHandle")
    (hB : BK l Z a0 EL tbl n0 R y 3 W argsL.toArray h kc ks Qc) (hlen : ∀ sig, parseMethodDescriptor y.desc = some sig → argsL.length = sig.parameters.length) (hs : S = argsL.reverse ++ rest) (hW : 2 * 0 + (rest.map fun v => v.category).sum ≤ W) (hsz : L.size = maxL) (hc : cells + kc ≤ R.cells) (hl : slots + ks ≤ R.slots)
    (k : ∀ v h', Qc v h' → G l Z a0 EL tbl n0 code maxL ret R own mname Q h' (cells + kc) (slots + ks) (pc + 3) L (v.toList ++ rest)) : G l Z a0 EL tbl n0 code maxL ret R own mname Q h cells slots pc L S := by
  intro p e s m args below meth c T vm0 k0 locs P
  obtain ⟨hx, hby, hml, hret, hlk, hnm, hEL, hw, X, eT, hS, hk, hZ, hown, N, H, O, Wm⟩ := P
  obtain ⟨v, vm₁, ⟨T', L', k', n'⟩, hW1, X', hS', hgr, ⟨Lc, ⟨q1, q2, q3⟩, e1, e2, e3, C1, W1⟩, st⟩ := callSS X hx hown (mvT hZ (hw _ w1)) (mvT hZ (hw _ w2)) (mvT hZ (hw _ w3)) (mvT hZ (hw _ w4)) hy (hB p e below s args vm0 hEL hw hZ H.1 O) (g := mkF m pc L S) rfl (hsz.trans hml.symm) hlen hs hW (hb hby hd) (fun _ _ => ⟨rfl, eT, hc, hl⟩)
  dsimp only [Pt.U, Pt.locs, Pt.cells, Pt.slots] at X' hS' hgr q2 q3 e1 e2 e3 C1 W1 st
  subst e1 e2 e3
  obtain ⟨X2, S2, Z2, o2⟩ := rebS hS hk X' hS' (by rw [← eT]; exact hgr) hZ hown
  exact back_steps (fun t ht => st.trans ht) (k v T'.heap q3 p e s m args below meth c T' T'.vm T'.heap.size _ ⟨hx, hby, hml, hret, hlk, hnm, hEL, hw, X2, rfl, S2, Nat.le_refl _, Z2, o2, N.app q1, H.trans C1, q2, fun q => State.WarmedH.trans (t := s.setVm vm0) (Wm q) (W1 q)⟩)
theorem G.special {a : Addr} {bytes : ByteArray} {mL : Nat} (hy1 : y.name = "<init>") (hd : decode code pc = .ok (.invokespecial idx, 3)) (w1 : Jvm.Cond.methodLink own idx y ∈ tbl) (w2 : Jvm.Cond.instanceMethod y ∈ tbl) (w4 : Jvm.Cond.code y bytes mL none ∈ tbl) (hy : y.cls ≠ "java/lang/invoke/MethodHandle" ∧ y.cls ≠ "java/lang/invoke/VarHandle")
    (hB : BK l Z a0 EL tbl n0 R y 3 W (.ref a :: argsL).toArray h kc ks Qc) (hlen : ∀ sig, parseMethodDescriptor y.desc = some sig → argsL.length = sig.parameters.length) (hs : S = argsL.reverse ++ .ref a :: rest) (hW : 2 * 0 + (rest.map fun v => v.category).sum ≤ W) (hsz : L.size = maxL) (hc : cells + kc ≤ R.cells) (hl : slots + ks ≤ R.slots)
    (k : ∀ v h', Qc v h' → G l Z a0 EL tbl n0 code maxL ret R own mname Q h' (cells + kc) (slots + ks) (pc + 3) L (v.toList ++ rest)) : G l Z a0 EL tbl n0 code maxL ret R own mname Q h cells slots pc L S := by
  intro p e s m args below meth c T vm0 k0 locs P
  obtain ⟨hx, hby, hml, hret, hlk, hnm, hEL, hw, X, eT, hS, hk, hZ, hown, N, H, O, Wm⟩ := P
  obtain ⟨v, vm₁, ⟨T', L', k', n'⟩, hW1, X', hS', hgr, ⟨Lc, ⟨q1, q2, q3⟩, e1, e2, e3, C1, W1⟩, st⟩ := X.specialBackS hx hy1 hown (mvT hZ (hw _ w1)) (mvT hZ (hw _ w2)) (mvT hZ (hw _ w4)) hy (hB p e below s args vm0 hEL hw hZ H.1 O) (g := mkF m pc L S) rfl (hsz.trans hml.symm) (Steps.refl _) hlen hs hW (hb hby hd) (fun _ _ => ⟨rfl, eT, hc, hl⟩)
  dsimp only [Pt.U, Pt.locs, Pt.cells, Pt.slots] at X' hS' hgr q2 q3 e1 e2 e3 C1 W1 st
  subst e1 e2 e3
  obtain ⟨X2, S2, Z2, o2⟩ := rebS hS hk X' hS' (by rw [← eT]; exact hgr) hZ hown
  exact back_steps (fun t ht => st.trans ht) (k v T'.heap q3 p e s m args below meth c T' T'.vm T'.heap.size _ ⟨hx, hby, hml, hret, hlk, hnm, hEL, hw, X2, rfl, S2, Nat.le_refl _, Z2, o2, N.app q1, H.trans C1, q2, fun q => State.WarmedH.trans (t := s.setVm vm0) (Wm q) (W1 q)⟩)
theorem G.virtual {a : Addr} {C : String} (hd : decode code pc = .ok (.invokevirtual idx, 3)) (w1 : Jvm.Cond.methodLink own idx y ∈ tbl) (w2 : Jvm.Cond.declares y ∈ tbl) (w3 : Jvm.Cond.selects C y y ∈ tbl) (w4 : Jvm.Cond.instanceMethod y ∈ tbl) (hy : y.cls ≠ "java/lang/invoke/MethodHandle" ∧ y.cls ≠ "java/lang/invoke/VarHandle") (E : Exa Z h a C)
    (hB : BK l Z a0 EL tbl n0 R y 3 W (.ref a :: argsL).toArray h kc ks Qc) (hlen : ∀ sig, parseMethodDescriptor y.desc = some sig → argsL.length = sig.parameters.length) (hs : S = argsL.reverse ++ .ref a :: rest) (hW : 2 * 0 + (rest.map fun v => v.category).sum ≤ W) (hsz : L.size = maxL) (hc : cells + kc ≤ R.cells) (hl : slots + ks ≤ R.slots)
    (k : ∀ v h', Qc v h' → G l Z a0 EL tbl n0 code maxL ret R own mname Q h' (cells + kc) (slots + ks) (pc + 3) L (v.toList ++ rest)) : G l Z a0 EL tbl n0 code maxL ret R own mname Q h cells slots pc L S := by
  intro p e s m args below meth c T vm0 k0 locs P
  obtain ⟨hx, hby, hml, hret, hlk, hnm, hEL, hw, X, eT, hS, hk, hZ, hown, N, H, O, Wm⟩ := P
  obtain ⟨cB, kB, f1, f2, f3⟩ := isOf (s := s.setVm vm0) hZ eT E
  obtain ⟨v, vm₁, ⟨T', L', k', n'⟩, hW1, X', hS', hgr, ⟨Lc, ⟨q1, q2, q3⟩, e1, e2, e3, C1, W1⟩, st⟩ := X.virtualBackS hx hown (mvT hZ (hw _ w1)) (mvT hZ (hw _ w2)) (notFace_of_selects (args := #[]) (mvT hZ (hw _ w3))) (mvT hZ (hw _ w3)) (mvT hZ (hw _ w4)) hy (hB p e below s args vm0 hEL hw hZ H.1 O) f1 f3 (g := mkF m pc L S) rfl (hsz.trans hml.symm) (Steps.refl _) hlen hs hW (hb hby hd) (fun _ _ => ⟨rfl, eT, hc, hl⟩)
  dsimp only [Pt.U, Pt.locs, Pt.cells, Pt.slots] at X' hS' hgr q2 q3 e1 e2 e3 C1 W1 st
  subst e1 e2 e3
  obtain ⟨X2, S2, Z2, o2⟩ := rebS hS hk X' hS' (by rw [← eT]; exact hgr) hZ hown
  exact back_steps (fun t ht => st.trans ht) (k v T'.heap q3 p e s m args below meth c T' T'.vm T'.heap.size _ ⟨hx, hby, hml, hret, hlk, hnm, hEL, hw, X2, rfl, S2, Nat.le_refl _, Z2, o2, N.app q1, H.trans C1, q2, fun q => State.WarmedH.trans (t := s.setVm vm0) (Wm q) (W1 q)⟩)
end Calls
/-! ## 4. The end -/
theorem rew_mono {s t : State} {o : Outcome} {Ls : List Loc} {k n k' n' : Nat} (q : ReturnedEndW s o t Ls k n) (hk : k ≤ k') (hn : n ≤ n') : ReturnedEndW s o t Ls k' n' := ⟨q.1, q.2.1, q.2.2.1, q.2.2.2.mono hk hn⟩
theorem G.leave {v : Option Value} (hv : ret = none → v = none) (hq : Q v h) (hc : cells ≤ R.cells) (hl : slots ≤ R.slots)
    (st : ∀ (p : Program) (e : Env) (s : State) (m : MethodId) (args : Array Value) (below : List Frame) (meth : Method) (c : Code) (T : State) (locs : List Loc) (fs : List Frame), p.tables.exec = Jvm.exec → c.code = code → meth.sig.returnType = ret → Stand p l e R s m args below meth c T locs cells slots →
      (∀ (f : JFrame) (acts : List Action), f.method = m → f.locked = none → f.entered = [] → (doReturn e (T.setTop f) acts v).1 = T.setFrames fs) → Steps p.tables e below (T.setTop (mkF m pc L S)) (T.setFrames fs)) :
    G l Z a0 EL tbl n0 code maxL ret R own mname Q h cells slots pc L S := by
  intro p e s m args below meth c T vm0 k0 locs P
  obtain ⟨hx, hby, hml, hret, hlk, hnm, hEL, hw, X, eT, hS, hk, hZ, hown, N, H, O, Wm⟩ := P
  subst eT
  obtain ⟨fs, hr, hrun, hended, hE⟩ := X.leaveW hS hk (v := v) (fun q => hv (hret.symm.trans q)) hlk
  exact ⟨_, _, st p e (s.setVm vm0) m args below meth c T locs fs hx hby hret X hr, hrun, hended, v, locs, rfl, ⟨N, O, hq⟩, H.trans (CHv.at X hZ hEL H.1 : CHr Z EL vm0 T.heap T.vm T.heap), rew_mono hE hc hl, fun q => State.WarmedH.trans (t := s.setVm vm0) (Wm q) X.warmed⟩
theorem G.retV (hd : decode code pc = .ok (.return_, 1)) (hret : ret = none) (hq : Q none h) (hc : cells ≤ R.cells) (hl : slots ≤ R.slots) : G l Z a0 EL tbl n0 code maxL ret R own mname Q h cells slots pc L [] :=
  G.leave (v := none) (fun _ => rfl) hq hc hl fun p e s m args below meth c T locs fs hx hby hr X hl => X.returnOut hx (hr.trans hret) (hb hby hd) hl
theorem G.retI {z : Int32} (hd : decode code pc = .ok (.ireturn, 1)) (hret : ret = some .int) (hq : Q (some (.int z)) h) (hc : cells ≤ R.cells) (hl : slots ≤ R.slots) : G l Z a0 EL tbl n0 code maxL ret R own mname Q h cells slots pc L (.int z :: S) :=
  G.leave (v := some (.int z)) (fun q => nomatch hret.symm.trans q) hq hc hl fun p e s m args below meth c T locs fs hx hby hr X hl => retOut X hx (hr.trans hret) rfl (Or.inl ⟨rfl, Or.inl rfl, _, rfl⟩) (hb hby hd) hl
theorem G.retJ {z : Int64} (hd : decode code pc = .ok (.lreturn, 1)) (hret : ret = some .long) (hq : Q (some (.long z)) h) (hc : cells ≤ R.cells) (hl : slots ≤ R.slots) : G l Z a0 EL tbl n0 code maxL ret R own mname Q h cells slots pc L (.long z :: S) :=
  G.leave (v := some (.long z)) (fun q => nomatch hret.symm.trans q) hq hc hl fun p e s m args below meth c T locs fs hx hby hr X hl => retOut X hx (hr.trans hret) rfl (Or.inr (Or.inl ⟨rfl, rfl, _, rfl⟩)) (hb hby hd) hl
theorem G.retA {w : Value} {t : FieldType} (hd : decode code pc = .ok (.areturn, 1)) (hret : ret = some t) (ht : t.isReference = true) (hn : narrow t w = w) (hw : w.isRef = true) (hq : Q (some w) h) (hc : cells ≤ R.cells) (hl : slots ≤ R.slots) : G l Z a0 EL tbl n0 code maxL ret R own mname Q h cells slots pc L (w :: S) :=
  G.leave (v := some w) (fun q => nomatch hret.symm.trans q) hq hc hl fun p e s m args below meth c T locs fs hx hby hr X hl => retOut X hx (hr.trans hret) hn (Or.inr (Or.inr (Or.inr (Or.inr ⟨rfl, ht, hw⟩)))) (hb hby hd) hl
theorem G.retN {z z' : Int32} {t : FieldType} (hd : decode code pc = .ok (.ireturn, 1)) (hret : ret = some t) (ht : t = .boolean ∨ t = .byte ∨ t = .char ∨ t = .short) (hz : nar t z = z') (hq : Q (some (.int z')) h) (hc : cells ≤ R.cells) (hl : slots ≤ R.slots) : G l Z a0 EL tbl n0 code maxL ret R own mname Q h cells slots pc L (.int z :: S) := by
  subst hz
  exact G.leave (v := some (.int (nar t z))) (fun q => nomatch hret.symm.trans q) hq hc hl fun p e s m args below meth c T locs fs hx hby hr X hl => Jvm.RoadKit.retN X hx (hr.trans hret) ht (hb hby hd) hl
end G
end Own
end Jvm.Pilot.@@N@@
namespace Jvm.Pilot.@@N@@
namespace Own
open Jvm Jvm.ClassFile Sem Op Lib Jvm.Free Jvm.Stand Jvm.LawKit Jvm.RoadKit Bundle
/-! ## 5. Strings -/
abbrev ST : String := "java/lang/String"
abbrev N1 : MethodName := ⟨"java/lang/String", "<init>", "([C)V"⟩
abbrev N4 : MethodName := ⟨"java/lang/String", "<init>", "([CIILjava/lang/Void;)V"⟩
section Strings
variable {l : Launch} {Z : State} {a0 : Array Value} {EL : List (String × Nat)} {tbl : List Jvm.Cond} {n0 : Nat} {R : Room} {h h' h1 h2 : Heap} {a x : Addr} {cs ds : List Int32}
/-- COMPACT_STRINGS is on -/
def CS (Z : State) : Prop := ∃ z : Int32, Sta Z Z.heap ST "COMPACT_STRINGS" "Z" (.int z) ∧ ¬ z = 0
def lat (cs : List Int32) : Prop := ∀ c ∈ cs, ¬ c < 0 ∧ ¬ (255 : Int32) < c
/-- the String at a spells cs -/
def Str (Z : State) (h : Heap) (a : Addr) (cs : List Int32) : Prop := Exa Z h a ST ∧ Fld Z h a ST "coder" "B" (.int 0) ∧ lat cs ∧ cs.length ≤ 4000 ∧
  ∃ (b : Addr) (k : ClassId), Fld Z h a ST "value" "[B" (.ref b) ∧ Arv Z h b k .byte (Int32.ofNat cs.length) ((cs.map fun c => c.toInt8.toInt32).map Value.int) (.int 0)
theorem Str.lt (F : Str Z h a cs) : a < h.size := F.1.lt
theorem Str.keep0 (F : Str Z h a cs) (K : Keep h h' []) : Str Z h' a cs := by
  obtain ⟨E, C, q1, q2, b, k, V, A⟩ := F
  exact ⟨E.keep K, C.keep K nin0, q1, q2, b, k, V.keep K nin0, A.keep K nin0⟩
theorem Str.keepE {t : Addr} {C : String} {n : Nat} (F : Str Z h a cs) (K : Keep h h' [t]) (E' : Exa Z h t C) (hC : C ≠ ST) (wi : (Jvm.Cond.instantiable C n).before a0 Z = true) : Str Z h' a cs := by
  obtain ⟨E, C1, q1, q2, b, k, V, A⟩ := F
  have n1 : a ≠ t := ne_exa E E' (Ne.symm hC)
  have n2 : b ≠ t := Ne.symm (Exa.neArv E' A wi)
  exact ⟨E.keep K, C1.keep K (ninS n1 nin0), q1, q2, b, k, V.keep K (ninS n1 nin0), A.keep K (ninS n2 nin0)⟩
theorem same_name {vm : Vm} (hal : Z.vm.Alike vm) {C D : String} {c : ClassId} (e1 : Z.vm.findClass C = some c) (e2 : vm.findClass D = some c) : C = D := by
  rw [hal.findClass] at e2
  obtain ⟨k1, q1, q2⟩ := Vm.findClass_spec e1
  obtain ⟨k2, q3, q4⟩ := Vm.findClass_spec e2
  cases q1.symm.trans q3
  exact q2.symm.trans q4
/-- a String whose value is still null is no literal -/
theorem safe_blank {vm : Vm} (hal : Z.vm.Alike vm) (E : Exa Z h x ST) (F : Fld Z h x ST "value" "[B" .null) : Safe Z EL vm h x := fun B => by
  obtain ⟨p, -, u, a, -, q, -, FF, rfl | rfl⟩ := B
  · obtain ⟨cS, ⟨⟨s1, s2, s3, ⟨cv, kv, iv, s4, s4'⟩, -, s6, s7, s8, -⟩, -, -⟩, -⟩ := FF
    obtain ⟨cell, cf, k, i, f, h1, h2, h3, h4, h5, h6, h7⟩ := F
    obtain ⟨kv', z4⟩ := ff_back (U := Wst Z vm h) hal s4
    cases h2.symm.trans z4
    cases h1.symm.trans (show h[q.sa]? = some q.sC from s1)
    cases h7.symm.trans s8
  · obtain ⟨cell, k, e1, e2, -⟩ := E
    cases (show h[q.sd]? = some q.SA from FF.hd).symm.trans e1
    obtain ⟨cS, -, -, f, -⟩ := FF
    exact absurd (same_name hal e2 f) (by decide)
theorem BK.more {y : MethodName} {len W kc ks kc' ks' : Nat} {as : Array Value} {Q : Option Value → Heap → Prop} (h1 : kc ≤ kc') (h2 : ks ≤ ks') (B : BK l Z a0 EL tbl n0 R y len W as h kc ks Q) : BK l Z a0 EL tbl n0 R y len W as h kc' ks' Q := by
  intro p e below s args vm0 hEL hw hZ H O m meth c A g ig mk a X hg hsize hdg hW hn hp
  obtain ⟨v, ⟨T, locs, k, n⟩, X', hS, hgr, ⟨L, q1, q2, q3, q4, q5, q6⟩, hst⟩ := B p e below s args vm0 hEL hw hZ H O m meth c A g ig mk a X hg hsize hdg hW hn ⟨hp.1, hp.2.1, Nat.le_trans (Nat.add_le_add_left h1 _) hp.2.2.1, Nat.le_trans (Nat.add_le_add_left h2 _) hp.2.2.2⟩
  dsimp only [Pt.U, Pt.locs, Pt.cells, Pt.slots] at X' hS hgr q1 q2 q3 q4 q5 q6 hst
  subst q2 q3 q4
  exact ⟨v, ⟨T, _, A.2.2.1 + kc', A.2.2.2 + ks'⟩, X'.mono (Nat.add_le_add_left h1 _) (Nat.add_le_add_left h2 _), hS, hgr, ⟨L, q1, rfl, rfl, rfl, q5, q6⟩, hst⟩
theorem BK.weak {y : MethodName} {len W kc ks : Nat} {as : Array Value} {Q Q' : Option Value → Heap → Prop} (hq : ∀ v h', Q v h' → Q' v h') (B : BK l Z a0 EL tbl n0 R y len W as h kc ks Q) : BK l Z a0 EL tbl n0 R y len W as h kc ks Q' := by
  intro p e below s args vm0 hEL hw hZ H O m meth c A g ig mk a X hg hsize hdg hW hn hp
  obtain ⟨v, T, X', hS, hgr, ⟨L, ⟨q1, q2, q3⟩, r⟩, hst⟩ := B p e below s args vm0 hEL hw hZ H O m meth c A g ig mk a X hg hsize hdg hW hn hp
  exact ⟨v, T, X', hS, hgr, ⟨L, ⟨q1, q2, hq _ _ q3⟩, r⟩, hst⟩
abbrev wordsE : List Jvm.Cond := [.stringLink ST 7 "", .instantiable ST 4, .soleField ST "value", .soleField ST "coder"]
theorem e0 : decode StrChars.New4.yB 0 = .ok (.aload_n 0, 1) := by decide +kernel
theorem e1 : decode StrChars.New4.yB 1 = .ok (.invokespecial 1, 3) := by decide +kernel
theorem e4 : decode StrChars.New4.yB 4 = .ok (.iload_n 3, 1) := by decide +kernel
theorem e5 : decode StrChars.New4.yB 5 = .ok (.ifCond .ne 22, 3) := by decide +kernel
theorem e8 : decode StrChars.New4.yB 8 = .ok (.aload_n 0, 1) := by decide +kernel
theorem e9 : decode StrChars.New4.yB 9 = .ok (.ldc 7, 2) := by decide +kernel
theorem e11 : decode StrChars.New4.yB 11 = .ok (.getfield 9, 3) := by decide +kernel
theorem e14 : decode StrChars.New4.yB 14 = .ok (.putfield 9, 3) := by decide +kernel
theorem e17 : decode StrChars.New4.yB 17 = .ok (.aload_n 0, 1) := by decide +kernel
theorem e18 : decode StrChars.New4.yB 18 = .ok (.ldc 7, 2) := by decide +kernel
theorem e20 : decode StrChars.New4.yB 20 = .ok (.getfield 15, 3) := by decide +kernel
theorem e23 : decode StrChars.New4.yB 23 = .ok (.putfield 15, 3) := by decide +kernel
theorem e26 : decode StrChars.New4.yB 26 = .ok (.return_, 1) := by decide +kernel
theorem pnS : plainName ST = true := by first | (simp [plainName, overriddenIn]; done) | decide +kernel
theorem efN4 (m : MethodId) (x b : Addr) : entryFrame m #[.ref x, .ref b, .int 0, .int 0, .null] 6 = mkF m 0 #[.val (.ref x), .val (.ref b), .val (.int 0), .val (.int 0), .val .null, .unset] [] := by first | (simp [entryFrame, mkF, argsToLocals, Value.category]; done) | rfl
theorem efN1 (m : MethodId) (x b : Addr) : entryFrame m #[.ref x, .ref b] 2 = mkF m 0 #[.val (.ref x), .val (.ref b)] [] := by first | (simp [entryFrame, mkF, argsToLocals, Value.category]; done) | rfl
/-- what new String(..) leaves -/
def QS (Z : State) (x : Addr) (cs : List Int32) (h : Heap) (v : Option Value) (h' : Heap) : Prop := v = none ∧ Keep h h' [x] ∧ Str Z h' x cs
set_option maxRecDepth 65536 in
set_option maxHeartbeats 4000000 in
/-- String(char[], int, int, Void) at length 0: the literal "" lends its array -/
theorem new4e (hws : ∀ d ∈ StrChars.Road.words, d ∈ tbl) (hwe : ∀ d ∈ wordsE, d ∈ tbl) (hmem : (ST, 7) ∈ EL) {b : Addr} (hx0 : n0 ≤ x) (E : Exa Z h x ST) (V : Fld Z h x ST "value" "[B" .null) (C : Fld Z h x ST "coder" "B" (.int 0)) :
    Ct l Z a0 EL tbl [] n0 N4 StrChars.New4.yB 6 none ({ frames := 1, cells := 2, slots := 4, locals := 12 } : Room) #[.ref x, .ref b, .int 0, .int 0, .null] h (QS Z x [] h) := by
  intro hEL hw0 hO
  refine MetFree.of_bodySF (plainFor_of_name pnS) hisR ?_
  intro p e s m args below meth c s₁ Bd hml0 hP hK
  obtain ⟨rfl, hZ, hh, hCH⟩ := hP
  subst hh
  have hw : ∀ d ∈ StrChars.Road.words, d.before a0 Z = true := fun d hd => hw0 d (hws d hd)
  have hwE : ∀ d ∈ wordsE, d.before a0 Z = true := fun d hd => hw0 d (hwe d hd)
  have hx := Bd.exec
  have hby := Bd.bytes
  have hml : c.maxLocals = 6 := hml0
  have hown : s.vm.findClass ST = some m.cls := findClass_of_methodNamed Bd.named
  have hnm := (name_of_methodNamed Bd.named Bd.method).1
  have X0 : Stand p l e ({ frames := 1, cells := 2, slots := 4, locals := 12 } : Room) s m #[.ref x, .ref b, .int 0, .int 0, .null] below meth c s₁ [] 0 0 := Stand.of_body Bd
  have e0' : s₁.heap = s.heap := by rw [Bd.state]; rfl
  have wi : (Jvm.Cond.instantiable ST 4).before a0 Z = true := hwE _ (by simp [wordsE])
  have wv : (Jvm.Cond.laysFinal ST ST "value" "[B").before a0 Z = true := hw _ (by simp [StrChars.Road.words])
  have wc : (Jvm.Cond.laysFinal ST ST "coder" "B").before a0 Z = true := hw _ (by simp [StrChars.Road.words])
  have wS : ∀ d ∈ Bundle.stringAtoms, d.before a0 Z = true := fun d hd => by
    simp only [Bundle.stringAtoms, List.mem_cons, List.not_mem_nil, or_false] at hd
    rcases hd with rfl | rfl | rfl | rfl | rfl | rfl | rfl
    · exact hw _ (by simp [StrChars.Road.words, Bundle.sN])
    · exact wi
    · exact hw _ (by simp [StrChars.Road.words])
    · exact wv
    · exact wc
    · exact hwE _ (by simp [wordsE, Bundle.sN])
    · exact hwE _ (by simp [wordsE, Bundle.sN])
  have wl : (Jvm.Cond.stringLink ST 7 "").before a0 Z = true := hwE _ (by simp [wordsE])
  obtain ⟨T1, X1, e1', st1⟩ := Jvm.RoadKit.initO X0 hx hZ hown (hw _ (by simp [StrChars.Road.words])) (hw _ (by simp [StrChars.Road.words])) (hw _ (by simp [StrChars.Road.words])) e0' (g := mkF m 1 #[.val (.ref x), .val (.ref b), .val (.int 0), .val (.int 0), .val .null, .unset] [.ref x]) rfl (by rw [hml]; rfl) rfl (hb hby e1) (by decide) (W := 0) (by show 2 * 0 + _ ≤ _; exact Nat.le_of_eq rfl) (by decide)
  have X1' : Stand p l e ({ frames := 1, cells := 2, slots := 4, locals := 12 } : Room) (s.setVm s.vm) m #[.ref x, .ref b, .int 0, .int 0, .null] below meth c T1 [] 0 0 := X1
  obtain ⟨a, T2, h2, k1, bb, kb, X2, e2, E2, S2, hk2, Z2, o2, Ea, Ca, Va, Ab, la, lb, C2, Lt, ne2, st2⟩ := ldcCH X1' hx hZ hown wl wS e1' ((State.WarmedH.refl s).since 0) (Nat.zero_le _) hEL hmem hCH (vs := []) (z := 0) ⟨fun c hc => (nomatch hc), rfl⟩ (by decide) rfl (g := mkF m 9 #[.val (.ref x), .val (.ref b), .val (.int 0), .val (.int 0), .val .null, .unset] [.ref x]) rfl (hb hby e9) (n := 0) (Nat.le_refl _) (by decide) (by decide) (by decide)
  have sf0 : Safe Z EL s.vm s.heap x := safe_blank (Z := Z) hZ.alike E V
  have sf2 : Safe Z EL T2.vm h2 x := C2.safe E.lt sf0
  obtain ⟨nea, neb⟩ := ne2 x sf2
  obtain ⟨T3, X3, e3', st3⟩ := Jvm.RoadKit.getF X2 hx Z2 o2 (host := "") (Or.inl (hw _ (by simp [StrChars.Road.words]))) Via.refl e2 Va (g := mkF m 11 #[.val (.ref x), .val (.ref b), .val (.int 0), .val (.int 0), .val .null, .unset] [.ref a, .ref x]) rfl rfl (hb hby e11)
  obtain ⟨T4, h4, X4, e4', W4, st4⟩ := Jvm.RoadKit.putF X3 hx Z2 o2 (host := "") (Or.inl (hw _ (by simp [StrChars.Road.words]))) Via.refl e3' (V.ext E2) (E.ext E2) (Or.inr ⟨wv, rfl, hnm⟩) wi (ty := .array .byte) (by decide) rfl rfl (g := mkF m 14 #[.val (.ref x), .val (.ref b), .val (.int 0), .val (.int 0), .val .null, .unset] [.ref bb, .ref x]) rfl rfl (hb hby e14)
  have C4 := C2.trans (CHr.wr W4 sf2 C2.1)
  have sf4 : Safe Z EL T2.vm h4 x := Safe.wr W4 sf2 C2.1 sf2
  have st5 := ldcAgain X4 hx Z2 o2 wl Lt (g := mkF m 18 #[.val (.ref x), .val (.ref b), .val (.int 0), .val (.int 0), .val .null, .unset] [.ref x]) rfl (hb hby e18)
  obtain ⟨T6, X6, e6', st6⟩ := Jvm.RoadKit.getF X4 hx Z2 o2 (host := "") (Or.inl (hw _ (by simp [StrChars.Road.words]))) Via.refl e4' (Ca.other W4 (Or.inl (Ne.symm nea))) (g := mkF m 20 #[.val (.ref x), .val (.ref b), .val (.int 0), .val (.int 0), .val .null, .unset] [.ref a, .ref x]) rfl rfl (hb hby e20)
  have sl : Jvm.RoadKit.slotOf Z ST "value" "[B" ≠ Jvm.RoadKit.slotOf Z ST "coder" "B" := Jvm.RoadKit.slot_ne (a0 := a0) (C := ST) (Or.inr wv) (Or.inr wc) (by decide) (t := .array .byte) (by decide) (t' := .byte) (by decide)
  obtain ⟨T7, h7, X7, e7', W7, st7⟩ := Jvm.RoadKit.putF X6 hx Z2 o2 (host := "") (Or.inl (hw _ (by simp [StrChars.Road.words]))) Via.refl e6' ((C.ext E2).other W4 (Or.inr (Ne.symm sl))) ((E.ext E2).wr W4) (Or.inr ⟨wc, rfl, hnm⟩) wi (ty := .byte) (by decide) rfl rfl (g := mkF m 23 #[.val (.ref x), .val (.ref b), .val (.int 0), .val (.int 0), .val .null, .unset] [.int 0, .ref x]) rfl rfl (hb hby e23)
  have C7 := C4.trans (CHr.wr W7 sf4 C4.1)
  have N7 : Fr n0 _ := Fr.snoc X7 (Fr.snoc X4 (Fr.nil n0) hx0) hx0
  have K7 : Keep s.heap h7 [x] := (((Keep.refl s.heap [x]).ext E2).wr W4 (Or.inl (List.mem_singleton.mpr rfl))).wr W7 (Or.inl (List.mem_singleton.mpr rfl))
  have hk7 : k1 ≤ T7.heap.size := by rw [e7', W7.size, W4.size]; exact hk2
  obtain ⟨fs, hr, hrun, hended, hE⟩ := X7.leaveW S2 hk7 (v := none) (fun _ => rfl) Bd.notSynchronized
  rw [efN4 m x b]
  refine ⟨_, _, ?_, hrun, hended, none, _, rfl, ⟨N7, ?_, ?_⟩, ?_, hE, fun q => absurd hmem (by rw [q]; exact List.not_mem_nil)⟩
  · refine XS.aloadN X0.here hx rfl (hb hby e0) rfl rfl ?_
    refine st1 _ ?_
    refine XS.iloadN X1.here hx rfl (hb hby e4) rfl ?_
    refine XS.ifNo X1.here hx rfl (hb hby e5) rfl (XT.i0_ne_f rfl) ?_
    refine XS.aloadN X1.here hx rfl (hb hby e8) rfl rfl ?_
    refine st2 _ ?_
    refine st3 _ ?_
    refine st4 _ ?_
    refine XS.aloadN X4.here hx rfl (hb hby e17) rfl rfl ?_
    refine st5 _ ?_
    refine st6 _ ?_
    refine st7 _ ?_
    exact X7.returnOut hx Bd.returns (hb hby e26) hr
  · show Old Z n0 T7.heap
    rw [e7']; exact hO.keep K7 (allS hx0 all0)
  · show QS Z x [] s.heap none T7.heap
    rw [e7']
    refine ⟨rfl, K7, ((E.ext E2).wr W4).wr W7, Fld.same W7 ((C.ext E2).other W4 (Or.inr (Ne.symm sl))), fun c hc => (nomatch hc), Nat.zero_le _, bb, kb, (Fld.same W4 (V.ext E2)).other W7 (Or.inr sl), ?_⟩
    exact (Ab.other W4 (Ne.symm neb)).other W7 (Ne.symm neb)
  · show CHr Z EL s.vm s.heap T7.vm T7.heap
    rw [e7']
    exact C7.trans (CHv.at X7 Z2 hEL C7.1)
theorem G.arrlen {code : ByteArray} {maxL : Nat} {ret : Option FieldType} {own mname : String} {Q : Option Value → Heap → Prop} {cells slots pc : Nat} {L : Array Slot} {S : List Value} {kA : ClassId} {ty : FieldType} {z : Int32} {vs : List Value} {dv : Value} (hd : decode code pc = .ok (.arraylength, 1)) (A : Arv Z h a kA ty z vs dv)
    (k : G l Z a0 EL tbl n0 code maxL ret R own mname Q h cells slots (pc + 1) L (.int z :: S)) : G l Z a0 EL tbl n0 code maxL ret R own mname Q h cells slots pc L (.ref a :: S) := by
  intro p e s m args below meth c T vm0 k0 locs P
  obtain ⟨hx, hby, hml, hret, hlk, hnm, hEL, hw, X, eT, r⟩ := id P
  obtain ⟨hS, hk, hZ, -⟩ := r
  obtain ⟨cl, A1, A2, A3, A4, A5, A6⟩ := A
  exact back_steps (fun t ht => X.arraylength hx (by rw [eT]; exact A1.1) (State.isArrayOf_alike (s := Z) hZ.alike A1.2.1) (g := mkF m pc L (.ref a :: S)) rfl rfl (hb hby hd) t (by rw [len_of A3 A4]; exact ht)) (k p e s m args below meth c T vm0 k0 locs P)
theorem G.caload {code : ByteArray} {maxL : Nat} {ret : Option FieldType} {own mname : String} {Q : Option Value → Heap → Prop} {cells slots pc : Nat} {L : Array Slot} {S : List Value} {kA : ClassId} {z j : Int32} {vs : List Value} {dv v : Value} (hd : decode code pc = .ok (.caload, 1)) (A : Arv Z h a kA .char z vs dv) (hj : ¬ j < 0 ∧ j < z) (hv : vs.getD j.toNatClampNeg dv = v)
    (k : G l Z a0 EL tbl n0 code maxL ret R own mname Q h cells slots (pc + 1) L (v :: S)) : G l Z a0 EL tbl n0 code maxL ret R own mname Q h cells slots pc L (.int j :: .ref a :: S) := by
  intro p e s m args below meth c T vm0 k0 locs P
  obtain ⟨hx, hby, hml, hret, hlk, hnm, hEL, hw, X, eT, r⟩ := id P
  obtain ⟨hS, hk, hZ, -⟩ := r
  obtain ⟨cl, A1, A2, A3, A4, A5, A6⟩ := A
  exact back_steps (fun t ht => X.caload hx (by rw [eT]; exact A1.1) (State.isArrayOf_alike (s := Z) hZ.alike A1.2.1) A1.2.2 (inb_of A3 hj) (A5.at (inb_of A3 hj) hv) (g := mkF m pc L (.int j :: .ref a :: S)) rfl rfl (hb hby hd) t ht) (k p e s m args below meth c T vm0 k0 locs P)
theorem pdN4 : parseMethodDescriptor "([CIILjava/lang/Void;)V" = some ⟨[.array .char, .int, .int, .object "java/lang/Void"], none⟩ := by decide +kernel
theorem pdN1 : parseMethodDescriptor "([C)V" = some ⟨[.array .char], none⟩ := by decide +kernel
set_option maxRecDepth 65536 in
theorem new1e (hws : ∀ d ∈ StrChars.Road.words, d ∈ tbl) (hwe : ∀ d ∈ wordsE, d ∈ tbl) (hmem : (ST, 7) ∈ EL) {b : Addr} {kC : ClassId} {vs : List Value} {dv : Value} (hx0 : n0 ≤ x) (E : Exa Z h x ST) (V : Fld Z h x ST "value" "[B" .null) (C : Fld Z h x ST "coder" "B" (.int 0)) (K : Arv Z h b kC .char 0 vs dv) :
    Ct l Z a0 EL tbl [] n0 N1 StrChars.New1.yB 2 none ({ frames := 2, cells := 2, slots := 4, locals := 29 } : Room) #[.ref x, .ref b] h (QS Z x [] h) := by
  refine Ct.of_body pnS (fun m => efN1 m x b) (fun _ _ _ => ?_)
  refine G.seg [(0, .aload_n 0, 1), (1, .aload_n 1, 1), (2, .iconst 0, 1), (3, .aload_n 1, 1)] (by decide +kernel) (pc' := 4) (L' := #[.val (.ref x), .val (.ref b)]) (S' := [.ref b, .int 0, .ref b, .ref x]) rfl ?_
  refine G.arrlen (by decide +kernel) K ?_
  refine G.seg [(5, .aconst_null, 1)] (by decide +kernel) (pc' := 6) (L' := #[.val (.ref x), .val (.ref b)]) (S' := [.null, .int 0, .int 0, .ref b, .ref x]) rfl ?_
  refine G.special (y := N4) (idx := 27) (a := x) (argsL := [.ref b, .int 0, .int 0, .null]) (rest := []) rfl (by decide +kernel) (hws _ (by simp [StrChars.Road.words, StrChars.New4.yN])) (hws _ (by simp [StrChars.Road.words, StrChars.New4.yN])) (hws (.code N4 StrChars.New4.yB 6 none) (by simp [StrChars.Road.words, StrChars.New4.yN])) (by decide)
    ((new4e hws hwe hmem hx0 E V C).pays (W := 0) (hws _ (by simp [StrChars.Road.words, StrChars.New4.yN])) (hws _ (by simp [StrChars.Road.words])) (by decide) (by decide)) (lenOf pdN4 rfl) rfl (Nat.le_of_eq rfl) rfl (by decide) (by decide) ?_
  rintro v h' ⟨rfl, q⟩
  exact G.retV (by decide +kernel) rfl ⟨rfl, q⟩ (by decide) (by decide)
theorem up (q : lat cs) : ∀ c ∈ cs, ¬ c < 0 ∧ ¬ (65535 : Int32) < c := fun c hc => ⟨(q c hc).1, fun r => (q c hc).2 (by rw [Int32.lt_iff_toInt_lt] at r ⊢; have e1 : (65535 : Int32).toInt = 65535 := rfl; have e2 : (255 : Int32).toInt = 255 := rfl; omega)⟩
/-- **new String(char[])**, any length from 0 on -/
theorem newStr {W : Nat} (hws : ∀ d ∈ StrChars.Road.words, d ∈ tbl) (hwe : ∀ d ∈ wordsE, d ∈ tbl) (hmem : (ST, 7) ∈ EL) {b : Addr} {kC : ClassId} {dv : Value} (hx0 : n0 ≤ x) (E : Exa Z h x ST) (V : Fld Z h x ST "value" "[B" .null) (C : Fld Z h x ST "coder" "B" (.int 0)) (K : Arv Z h b kC .char (Int32.ofNat cs.length) (cs.map Value.int) dv)
    (hcs : CS Z) (hlat : lat cs) (hlen : cs.length ≤ 4000) (hf : 4 ≤ R.frames) (hlo : W + 65 ≤ R.locals) :
    BK l Z a0 EL tbl n0 R N1 3 W #[.ref x, .ref b] h 2 (cs.length + 4) (QS Z x cs h) := by
  rcases Nat.eq_zero_or_pos cs.length with h0 | h0
  · obtain rfl : cs = [] := List.eq_nil_of_length_eq_zero h0
    exact (new1e hws hwe hmem hx0 E V C K).pays (hws _ (by simp [StrChars.Road.words, StrChars.New1.yN])) (hws _ (by simp [StrChars.Road.words])) (Nat.le_trans (by decide) hf) (by show W + (2 + 11) + 29 ≤ _; omega)
  · refine BK.more (kc := 1) (ks := cs.length) (by decide) (Nat.le_add_right _ _) (BK.of_back (ws := [x]) (allS hx0 all0) (fun vm hv => sfS (safe_blank (Z := Z) hv.alike E V) sf0) fun p e below s args vm0 hw hZ O => ?_)
    obtain ⟨z, Sz, hz⟩ := hcs
    intro m meth c A g ig mk a X hg hsize hdg hW hn hp
    obtain ⟨v, B, X', ⟨Lc, ⟨q1, q2, q3, q4, q5, t, kb, r1, r2, r3, r4, r5⟩, q7⟩, st⟩ := StrChars.Road.backV (W := W) (s := s.setVm vm0) hZ (fun d hd => hw d (hws d hd)) (kI := 4) (hw _ (hwe _ (by simp [wordsE]))) (cs := cs) (bs := cs.map (fun c => c.toInt8.toInt32)) (n := cs.length) hx0 (O.1 ▸ O.2.1) E V C K (Sz.ext O.2) hz rfl rfl h0 hlen hlat rfl hf hlo m meth c A g ig mk a X hg hsize hdg hW hn hp
    exact ⟨v, B, X', ⟨Lc, ⟨q2, q3, q1, q3, q4, q5, hlat, hlen, t, kb, r4, r5⟩, q7⟩, st⟩
end Strings
end Own
end Jvm.Pilot.@@N@@
namespace Jvm.Pilot.@@N@@
namespace Own
open Jvm Jvm.ClassFile Sem Op Lib Jvm.Free Jvm.Stand Jvm.LawKit Jvm.RoadKit Bundle
section StrLen
variable {l : Launch} {Z : State} {a0 : Array Value} {EL : List (String × Nat)} {tbl : List Jvm.Cond} {n0 : Nat} {R : Room} {h h' h1 h2 : Heap} {a x y : Addr} {cs ds : List Int32}
/-- **length** of a String -/
theorem lenB {W : Nat} (hwl : ∀ d ∈ StrChars.Road.wordsLen, d ∈ tbl) (wi : Jvm.Cond.instantiable ST 4 ∈ tbl) (A : Str Z h x cs) (hcs : CS Z) (hf : 2 ≤ R.frames) (hlo : W + 25 ≤ R.locals) :
    BK l Z a0 EL tbl n0 R ⟨ST, "length", "()I"⟩ 3 W #[.ref x] h 0 0 (fun v h' => h' = h ∧ v = some (.int (Int32.ofNat cs.length))) := by
  refine BK.of_back (ws := []) all0 (fun _ _ => sf0) fun p e below s args vm0 hw hZ O => ?_
  obtain ⟨z, Sz, hz⟩ := hcs
  obtain ⟨E, C, q1, q2, b, k, V, K⟩ := A
  intro m meth c A g ig mk a X hg hsize hdg hW hn hp
  obtain ⟨v, B, X', ⟨Lc, ⟨hv, rfl, hh⟩, q7⟩, st⟩ := StrChars.Road.lenW (W := W) (s := s.setVm vm0) hZ (fun d hd => hw d (hwl d hd)) (kI := 4) (hw _ wi) E V C K (StrChars.Road.codOf rfl fun c hc => (q1 c hc).2) (up q1) (Sz.ext O.2) hz q2 hf hlo m meth c A g ig mk a X hg hsize hdg hW hn hp
  exact ⟨v, B, X', ⟨[], ⟨Fr.nil n0, by rw [hh]; exact Keep.refl _ _, hh, hv⟩, q7⟩, st⟩
end StrLen
end Own
end Jvm.Pilot.@@N@@
namespace Jvm.Pilot.@@N@@
namespace Own
open Jvm Jvm.ClassFile Sem Op Lib Jvm.Free Jvm.Stand Jvm.LawKit Jvm.RoadKit Bundle
/-! ## 6. Numbers -/
/-- a sign from 0 to 255 -/
def b8 (x : Int32) : Prop := ¬ x < 0 ∧ ¬ (255 : Int32) < x
theorem b8_iff (x : Int32) : b8 x ↔ x.toBitVec.toNat < 256 := by
  have h1 : x.toInt = x.toBitVec.toInt := rfl
  have e0 : (0 : Int32).toInt = 0 := rfl
  have e1 : (255 : Int32).toInt = 255 := rfl
  have := x.toBitVec.isLt
  simp only [b8, Int32.lt_iff_toInt_lt, e0, e1, h1, BitVec.toInt_eq_toNat_cond]
  split <;> omega
theorem and_nat (x m : Int32) : (x &&& m).toBitVec.toNat ≤ m.toBitVec.toNat := by
  simp only [Int32.toBitVec_and, BitVec.toNat_and]; exact Nat.and_le_right
theorem ofNat_nat (x : Int32) : x = Int32.ofNat x.toBitVec.toNat := by
  apply Int32.toBitVec_inj.mp
  show _ = BitVec.ofNat 32 _
  rw [BitVec.ofNat_toNat]; simp
theorem andk (x m : Int32) (n : Nat) (hm : m.toBitVec.toNat < n) : ∃ k : Fin n, x &&& m = Int32.ofNat k.val := ⟨⟨_, Nat.lt_of_le_of_lt (and_nat x m) hm⟩, ofNat_nat _⟩
theorem b8_and (x : Int32) : b8 (x &&& 255) := (b8_iff _).mpr (Nat.lt_of_le_of_lt (and_nat x 255) (by decide))
theorem b8_xor {x y : Int32} (hx : b8 x) (hy : b8 y) : b8 (x ^^^ y) := by
  rw [b8_iff] at *
  simp only [Int32.toBitVec_xor, BitVec.toNat_xor]
  exact Nat.xor_lt_two_pow (n := 8) hx hy
theorem b8_cases {x : Int32} (hx : b8 x) : ∃ k : Fin 256, x = Int32.ofNat k.val := ⟨⟨_, (b8_iff x).mp hx⟩, ofNat_nat x⟩
/-- (char) of such a sign is itself -/
theorem b8_c {x : Int32} (hx : b8 x) : x.toUInt32.toUInt16.toUInt32.toInt32 = x := by
  obtain ⟨k, rfl⟩ := b8_cases hx
  clear hx; revert k; decide +kernel
theorem b8_ci {x : Int32} (hx : b8 x) : b8 x.toUInt32.toUInt16.toUInt32.toInt32 := by rw [b8_c hx]; exact hx
theorem nar_b8 {x : Int32} (hx : b8 x) : nar .char x = x := b8_c hx
theorem lat0 : lat [] := fun _ h => nomatch h
theorem latS {c : Int32} {cs : List Int32} (h : b8 c) (r : lat cs) : lat (c :: cs) := fun x hx => (List.mem_cons.mp hx).elim (fun e => e ▸ h) (r x)
theorem nar_z {x : Int32} (h : x = 0 ∨ x = 1) : nar .boolean x = x := by rcases h with rfl | rfl <;> rfl
theorem nar_ite {p : Prop} [Decidable p] : nar .boolean (if p then 1 else 0) = if p then 1 else 0 := by split <;> rfl
theorem narr_z {x : Int32} (h : x = 0 ∨ x = 1) : narrow .boolean (.int x) = .int x := by rcases h with rfl | rfl <;> rfl
theorem fits_z {x : Int32} (h : x = 0 ∨ x = 1) : fits .boolean (.int x) = true := by rcases h with rfl | rfl <;> rfl
theorem fits_r {n : String} {v : Value} (h : v.isRef = true) : fits (.object n) v = true := by rcases ref_cases h with rfl | ⟨a, rfl⟩ <;> rfl
theorem and3 (x : Int32) : x &&& 3 = 0 ∨ x &&& 3 = 1 ∨ x &&& 3 = 2 ∨ x &&& 3 = 3 := by
  obtain ⟨k, e⟩ := andk x 3 4 (by decide); rw [e]; clear e; revert k; decide +kernel
theorem and3rem3 (x : Int32) : (x &&& 3) % 3 = 0 ∨ (x &&& 3) % 3 = 1 ∨ (x &&& 3) % 3 = 2 := by
  obtain ⟨k, e⟩ := andk x 3 4 (by decide); rw [e]; clear e; revert k; decide +kernel
theorem and1 (x : Int32) : x &&& 1 = 0 ∨ x &&& 1 = 1 := by
  obtain ⟨k, e⟩ := andk x 1 2 (by decide); rw [e]; clear e; revert k; decide +kernel
end Own
end Jvm.Pilot.@@N@@
namespace Jvm.Pilot.@@N@@
open Jvm Jvm.ClassFile Sem Op Lib Jvm.Free Jvm.Stand Jvm.LawKit Jvm.RoadKit Bundle Jvm.Pilot.@@N@@.Jvm.D Own
theorem pn0 : plainName "java/lang/String" = true := by first | (simp [plainName, overriddenIn]; done) | decide +kernel
theorem pn1 : plainName "java/lang/Record" = true := by first | (simp [plainName, overriddenIn]; done) | decide +kernel
theorem pd0 : parseMethodDescriptor "()V" = some ⟨[], none⟩ := by decide +kernel
theorem pn2 : plainName "com/example/rollcall/rollcall/Event" = true := by first | (simp [plainName, overriddenIn]; done) | decide +kernel
theorem pn3 : plainName "java/util/Collections" = true := by first | (simp [plainName, overriddenIn]; done) | decide +kernel
theorem pd1 : parseMethodDescriptor "()Ljava/util/SortedMap;" = some ⟨[], some (.object "java/util/SortedMap")⟩ := by decide +kernel
theorem pd2 : parseMethodDescriptor "(Ljava/lang/String;Ljava/lang/String;Lcom/example/rollcall/rollcall/Event$Kind;Lcom/example/rollcall/rollcall/Standing;Ljava/lang/Long;Ljava/util/SortedMap;)V" = some ⟨[.object "java/lang/String", .object "java/lang/String", .object "com/example/rollcall/rollcall/Event$Kind", .object "com/example/rollcall/rollcall/Standing", .object "java/lang/Long", .object "java/util/SortedMap"], none⟩ := by decide +kernel
theorem pd3 : parseMethodDescriptor "(Ljava/lang/String;Ljava/lang/String;Lcom/example/rollcall/rollcall/Event$Kind;Lcom/example/rollcall/rollcall/Standing;Ljava/lang/Long;)V" = some ⟨[.object "java/lang/String", .object "java/lang/String", .object "com/example/rollcall/rollcall/Event$Kind", .object "com/example/rollcall/rollcall/Standing", .object "java/lang/Long"], none⟩ := by decide +kernel
theorem pd4 : parseMethodDescriptor "(Ljava/lang/String;)Lcom/example/rollcall/rollcall/Event;" = some ⟨[.object "java/lang/String"], some (.object "com/example/rollcall/rollcall/Event")⟩ := by decide +kernel
theorem pd5 : parseMethodDescriptor "()Ljava/lang/String;" = some ⟨[], some (.object "java/lang/String")⟩ := by decide +kernel
theorem pd6 : parseMethodDescriptor "(Ljava/lang/Object;)Z" = some ⟨[.object "java/lang/Object"], some (.boolean)⟩ := by decide +kernel
theorem pd7 : parseMethodDescriptor "()I" = some ⟨[], some (.int)⟩ := by decide +kernel
theorem pd8 : parseMethodDescriptor "()Lcom/example/rollcall/rollcall/Event$Kind;" = some ⟨[], some (.object "com/example/rollcall/rollcall/Event$Kind")⟩ := by decide +kernel
theorem pd9 : parseMethodDescriptor "()Lcom/example/rollcall/rollcall/Standing;" = some ⟨[], some (.object "com/example/rollcall/rollcall/Standing")⟩ := by decide +kernel
theorem pd10 : parseMethodDescriptor "()Ljava/lang/Long;" = some ⟨[], some (.object "java/lang/Long")⟩ := by decide +kernel
theorem pn4 : plainName "com/example/rollcall/rollcall/EventGapPinLaw" = true := by first | (simp [plainName, overriddenIn]; done) | decide +kernel

theorem sw1 : ∀ d ∈ StrChars.Road.words, d ∈ tables_1 := by decide +kernel
theorem swE : ∀ d ∈ wordsE, d ∈ tables_1 := by decide +kernel
theorem hm7 : ("java/lang/String", 7) ∈ consts_1 := by decide
/-- a String made by the law's own helper -/
def QM (Z : State) (h : Heap) (cs : List Int32) (v : Option Value) (h' : Heap) : Prop := ∃ a, v = some (.ref a) ∧ Keep h h' [] ∧ h.size ≤ a ∧ Str Z h' a cs
theorem swL : ∀ d ∈ StrChars.Road.wordsLen, d ∈ tables_1 := by decide +kernel
def EM (Z : State) (m : Addr) : Prop := Sta Z Z.heap "java/util/Collections$UnmodifiableNavigableMap" "EMPTY_NAVIGABLE_MAP" "Ljava/util/Collections$UnmodifiableNavigableMap$EmptyNavigableMap;" (.ref m)
def KG (Z : State) (k : Addr) : Prop := Sta Z Z.heap "com/example/rollcall/rollcall/Event$Kind" "GAP" "Lcom/example/rollcall/rollcall/Event$Kind;" (.ref k)
set_option maxRecDepth 65536 in
set_option maxHeartbeats 4000000 in
theorem eqselfC (l : Launch) (Z : State) (a0 : Array Value) (n0 : Nat) (h : Heap) (t : Addr) :
    Ct l Z a0 consts_1 tables_1 [] n0 ⟨"java/lang/String", "equals", "(Ljava/lang/Object;)Z"⟩ jdk_42_method_66_code 3 (some (.boolean)) ({ frames := 0, cells := 0, slots := 0, locals := 0 } : Room) #[.ref t, .ref t] h (fun v h' => h' = h ∧ v = some (.int 1)) := by
  refine Ct.of_body pn0 (L0 := #[.val (.ref t), .val (.ref t), .unset]) (fun m => by exact ef_of rfl) (fun hEL hw hO => ?_)
  refine G.seg [(0, .aload_n 0, 1), (1, .aload_n 1, 1)] (by decide +kernel) (pc' := 2) (L' := #[.val (.ref t), .val (.ref t), .unset]) (S' := [.ref t, .ref t]) rfl ?_
  refine G.acne (o := (5)) (pc' := 7) rfl rfl (by decide +kernel) (by decide) rfl (fun q1 => absurd rfl q1) ?_
  intro _
  refine G.seg [(5, .iconst 1, 1)] (by decide +kernel) (pc' := 6) (L' := #[.val (.ref t), .val (.ref t), .unset]) (S' := [.int (1 : Int32)]) rfl ?_
  exact G.retN (by decide +kernel) rfl (Or.inl rfl) rfl ⟨rfl, rfl⟩ (lb rfl) (lb rfl)

set_option maxRecDepth 65536 in
set_option maxHeartbeats 4000000 in
theorem recC (l : Launch) (Z : State) (a0 : Array Value) (n0 : Nat) (h : Heap) (t : Addr) :
    Ct l Z a0 consts_1 tables_1 [] n0 ⟨"java/lang/Record", "<init>", "()V"⟩ jdk_30_method_1_code 1 (none) ({ frames := 1, cells := 0, slots := 0, locals := 12 } : Room) #[.ref t] h (fun v h' => v = none ∧ h' = h) := by
  refine Ct.of_body pn1 (L0 := #[.val (.ref t)]) (fun m => by exact ef_of rfl) (fun hEL hw hO => ?_)
  refine G.seg [(0, .aload_n 0, 1)] (by decide +kernel) (pc' := 1) (L' := #[.val (.ref t)]) (S' := [.ref t]) rfl ?_
  refine G.initO (W := 0) (by decide +kernel) (tw 59 rfl) (tw 12 rfl) (tw 13 rfl) rfl (lb rfl) (Nat.le_of_eq rfl) (lb rfl) ?_
  exact G.retV (by decide +kernel) rfl ⟨rfl, rfl⟩ (lb rfl) (lb rfl)

set_option maxRecDepth 65536 in
set_option maxHeartbeats 4000000 in
theorem i6C (l : Launch) (Z : State) (a0 : Array Value) (n0 : Nat) (h : Heap) (t : Addr) (x : Value) (k mp : Addr) (hx : x.isRef = true) (ht : n0 ≤ t) (E : Exa Z h t "com/example/rollcall/rollcall/Event") (Fscope : Fld Z h t "com/example/rollcall/rollcall/Event" "scope" "Ljava/lang/String;" .null) (Finstrument : Fld Z h t "com/example/rollcall/rollcall/Event" "instrument" "Ljava/lang/String;" .null) (Fkind : Fld Z h t "com/example/rollcall/rollcall/Event" "kind" "Lcom/example/rollcall/rollcall/Event$Kind;" .null) (Fstanding : Fld Z h t "com/example/rollcall/rollcall/Event" "standing" "Lcom/example/rollcall/rollcall/Standing;" .null) (Fat : Fld Z h t "com/example/rollcall/rollcall/Event" "at" "Ljava/lang/Long;" .null) (Fchanges : Fld Z h t "com/example/rollcall/rollcall/Event" "changes" "Ljava/util/SortedMap;" .null) :
    Ct l Z a0 consts_1 tables_1 [] n0 ⟨"com/example/rollcall/rollcall/Event", "<init>", "(Ljava/lang/String;Ljava/lang/String;Lcom/example/rollcall/rollcall/Event$Kind;Lcom/example/rollcall/rollcall/Standing;Ljava/lang/Long;Ljava/util/SortedMap;)V"⟩ prog_4_method_2_code 7 (none) ({ frames := 2, cells := 0, slots := 0, locals := 24 } : Room) #[.ref t, x, .null, .ref k, .null, .null, .ref mp] h (fun v h' => v = none ∧ Keep h h' [t] ∧ Exa Z h' t "com/example/rollcall/rollcall/Event" ∧ Fld Z h' t "com/example/rollcall/rollcall/Event" "scope" "Ljava/lang/String;" (x) ∧ Fld Z h' t "com/example/rollcall/rollcall/Event" "instrument" "Ljava/lang/String;" (.null) ∧ Fld Z h' t "com/example/rollcall/rollcall/Event" "kind" "Lcom/example/rollcall/rollcall/Event$Kind;" (.ref k) ∧ Fld Z h' t "com/example/rollcall/rollcall/Event" "standing" "Lcom/example/rollcall/rollcall/Standing;" (.null) ∧ Fld Z h' t "com/example/rollcall/rollcall/Event" "at" "Ljava/lang/Long;" (.null) ∧ Fld Z h' t "com/example/rollcall/rollcall/Event" "changes" "Ljava/util/SortedMap;" (.ref mp)) := by
  refine Ct.of_body pn2 (L0 := #[.val (.ref t), .val (x), .val (.null), .val (.ref k), .val (.null), .val (.null), .val (.ref mp)]) (fun m => by rcases ref_cases hx with rfl | ⟨_, rfl⟩ <;> exact ef_of rfl) (fun hEL hw hO => ?_)
  refine G.seg [(0, .aload_n 0, 1)] (by decide +kernel) (pc' := 1) (L' := #[.val (.ref t), .val (x), .val (.null), .val (.ref k), .val (.null), .val (.null), .val (.ref mp)]) (S' := [.ref t]) rfl ?_
  refine G.special (y := ⟨"java/lang/Record", "<init>", "()V"⟩) (a := t) (argsL := []) (rest := []) (W := 0) rfl (by decide +kernel) (tw 54 rfl) (tw 55 rfl) (tw 58 rfl) (by decide) ((recC l Z a0 n0 h t).pays (tw 58 rfl) (tw 57 rfl) (lb rfl) (lb rfl)) (lenOf pd0 rfl) rfl (Nat.le_of_eq rfl) rfl (lb rfl) (lb rfl) ?_
  rintro _ h1 ⟨rfl, rfl⟩
  refine G.seg [(4, .aload_n 0, 1)] (by decide +kernel) (pc' := 5) (L' := #[.val (.ref t), .val (x), .val (.null), .val (.ref k), .val (.null), .val (.null), .val (.ref mp)]) (S' := [.ref t]) rfl ?_
  refine G.aloadVn (k := 1) (by decide +kernel) rfl hx ?_
  refine G.putF (C := "com/example/rollcall/rollcall/Event") (by decide +kernel) (tw 60 rfl) Fscope E (Or.inr ⟨(tw 61 rfl), rfl, rfl⟩) (tw 38 rfl) (ty := .object "java/lang/String") (by decide) rfl (fits_r hx) ht (Or.inr (by decide)) ?_
  intro h2 W2 K2 F2 E2
  have F2instrument := past hw (Or.inr (tw 63 rfl)) (Or.inr (tw 61 rfl)) (by decide) (t := .object "java/lang/String") (by decide) (t' := .object "java/lang/String") (by decide) W2 Finstrument
  have F2kind := past hw (Or.inr (tw 65 rfl)) (Or.inr (tw 61 rfl)) (by decide) (t := .object "com/example/rollcall/rollcall/Event$Kind") (by decide) (t' := .object "java/lang/String") (by decide) W2 Fkind
  have F2standing := past hw (Or.inr (tw 67 rfl)) (Or.inr (tw 61 rfl)) (by decide) (t := .object "com/example/rollcall/rollcall/Standing") (by decide) (t' := .object "java/lang/String") (by decide) W2 Fstanding
  have F2at := past hw (Or.inr (tw 69 rfl)) (Or.inr (tw 61 rfl)) (by decide) (t := .object "java/lang/Long") (by decide) (t' := .object "java/lang/String") (by decide) W2 Fat
  have F2changes := past hw (Or.inr (tw 71 rfl)) (Or.inr (tw 61 rfl)) (by decide) (t := .object "java/util/SortedMap") (by decide) (t' := .object "java/lang/String") (by decide) W2 Fchanges
  refine G.seg [(9, .aload_n 0, 1), (10, .aload_n 2, 1)] (by decide +kernel) (pc' := 11) (L' := #[.val (.ref t), .val (x), .val (.null), .val (.ref k), .val (.null), .val (.null), .val (.ref mp)]) (S' := [.null, .ref t]) rfl ?_
  refine G.putF (C := "com/example/rollcall/rollcall/Event") (by decide +kernel) (tw 62 rfl) F2instrument E2 (Or.inr ⟨(tw 63 rfl), rfl, rfl⟩) (tw 38 rfl) (ty := .object "java/lang/String") (by decide) rfl rfl ht (Or.inr (by decide)) ?_
  intro h3 W3 K3 F3 E3
  have F3scope := past hw (Or.inr (tw 61 rfl)) (Or.inr (tw 63 rfl)) (by decide) (t := .object "java/lang/String") (by decide) (t' := .object "java/lang/String") (by decide) W3 F2
  have F3kind := past hw (Or.inr (tw 65 rfl)) (Or.inr (tw 63 rfl)) (by decide) (t := .object "com/example/rollcall/rollcall/Event$Kind") (by decide) (t' := .object "java/lang/String") (by decide) W3 F2kind
  have F3standing := past hw (Or.inr (tw 67 rfl)) (Or.inr (tw 63 rfl)) (by decide) (t := .object "com/example/rollcall/rollcall/Standing") (by decide) (t' := .object "java/lang/String") (by decide) W3 F2standing
  have F3at := past hw (Or.inr (tw 69 rfl)) (Or.inr (tw 63 rfl)) (by decide) (t := .object "java/lang/Long") (by decide) (t' := .object "java/lang/String") (by decide) W3 F2at
  have F3changes := past hw (Or.inr (tw 71 rfl)) (Or.inr (tw 63 rfl)) (by decide) (t := .object "java/util/SortedMap") (by decide) (t' := .object "java/lang/String") (by decide) W3 F2changes
  have KK3 := Keep.trans K2 K3 (fun x hx => Or.inl hx)
  refine G.seg [(14, .aload_n 0, 1), (15, .aload_n 3, 1)] (by decide +kernel) (pc' := 16) (L' := #[.val (.ref t), .val (x), .val (.null), .val (.ref k), .val (.null), .val (.null), .val (.ref mp)]) (S' := [.ref k, .ref t]) rfl ?_
  refine G.putF (C := "com/example/rollcall/rollcall/Event") (by decide +kernel) (tw 64 rfl) F3kind E3 (Or.inr ⟨(tw 65 rfl), rfl, rfl⟩) (tw 38 rfl) (ty := .object "com/example/rollcall/rollcall/Event$Kind") (by decide) rfl rfl ht (Or.inr (by decide)) ?_
  intro h4 W4 K4 F4 E4
  have F4scope := past hw (Or.inr (tw 61 rfl)) (Or.inr (tw 65 rfl)) (by decide) (t := .object "java/lang/String") (by decide) (t' := .object "com/example/rollcall/rollcall/Event$Kind") (by decide) W4 F3scope
  have F4instrument := past hw (Or.inr (tw 63 rfl)) (Or.inr (tw 65 rfl)) (by decide) (t := .object "java/lang/String") (by decide) (t' := .object "com/example/rollcall/rollcall/Event$Kind") (by decide) W4 F3
  have F4standing := past hw (Or.inr (tw 67 rfl)) (Or.inr (tw 65 rfl)) (by decide) (t := .object "com/example/rollcall/rollcall/Standing") (by decide) (t' := .object "com/example/rollcall/rollcall/Event$Kind") (by decide) W4 F3standing
  have F4at := past hw (Or.inr (tw 69 rfl)) (Or.inr (tw 65 rfl)) (by decide) (t := .object "java/lang/Long") (by decide) (t' := .object "com/example/rollcall/rollcall/Event$Kind") (by decide) W4 F3at
  have F4changes := past hw (Or.inr (tw 71 rfl)) (Or.inr (tw 65 rfl)) (by decide) (t := .object "java/util/SortedMap") (by decide) (t' := .object "com/example/rollcall/rollcall/Event$Kind") (by decide) W4 F3changes
  have KK4 := Keep.trans KK3 K4 (fun x hx => Or.inl hx)
  refine G.seg [(19, .aload_n 0, 1), (20, .aload 4, 2)] (by decide +kernel) (pc' := 22) (L' := #[.val (.ref t), .val (x), .val (.null), .val (.ref k), .val (.null), .val (.null), .val (.ref mp)]) (S' := [.null, .ref t]) rfl ?_
  refine G.putF (C := "com/example/rollcall/rollcall/Event") (by decide +kernel) (tw 66 rfl) F4standing E4 (Or.inr ⟨(tw 67 rfl), rfl, rfl⟩) (tw 38 rfl) (ty := .object "com/example/rollcall/rollcall/Standing") (by decide) rfl rfl ht (Or.inr (by decide)) ?_
  intro h5 W5 K5 F5 E5
  have F5scope := past hw (Or.inr (tw 61 rfl)) (Or.inr (tw 67 rfl)) (by decide) (t := .object "java/lang/String") (by decide) (t' := .object "com/example/rollcall/rollcall/Standing") (by decide) W5 F4scope
  have F5instrument := past hw (Or.inr (tw 63 rfl)) (Or.inr (tw 67 rfl)) (by decide) (t := .object "java/lang/String") (by decide) (t' := .object "com/example/rollcall/rollcall/Standing") (by decide) W5 F4instrument
  have F5kind := past hw (Or.inr (tw 65 rfl)) (Or.inr (tw 67 rfl)) (by decide) (t := .object "com/example/rollcall/rollcall/Event$Kind") (by decide) (t' := .object "com/example/rollcall/rollcall/Standing") (by decide) W5 F4
  have F5at := past hw (Or.inr (tw 69 rfl)) (Or.inr (tw 67 rfl)) (by decide) (t := .object "java/lang/Long") (by decide) (t' := .object "com/example/rollcall/rollcall/Standing") (by decide) W5 F4at
  have F5changes := past hw (Or.inr (tw 71 rfl)) (Or.inr (tw 67 rfl)) (by decide) (t := .object "java/util/SortedMap") (by decide) (t' := .object "com/example/rollcall/rollcall/Standing") (by decide) W5 F4changes
  have KK5 := Keep.trans KK4 K5 (fun x hx => Or.inl hx)
  refine G.seg [(25, .aload_n 0, 1), (26, .aload 5, 2)] (by decide +kernel) (pc' := 28) (L' := #[.val (.ref t), .val (x), .val (.null), .val (.ref k), .val (.null), .val (.null), .val (.ref mp)]) (S' := [.null, .ref t]) rfl ?_
  refine G.putF (C := "com/example/rollcall/rollcall/Event") (by decide +kernel) (tw 68 rfl) F5at E5 (Or.inr ⟨(tw 69 rfl), rfl, rfl⟩) (tw 38 rfl) (ty := .object "java/lang/Long") (by decide) rfl rfl ht (Or.inr (by decide)) ?_
  intro h6 W6 K6 F6 E6
  have F6scope := past hw (Or.inr (tw 61 rfl)) (Or.inr (tw 69 rfl)) (by decide) (t := .object "java/lang/String") (by decide) (t' := .object "java/lang/Long") (by decide) W6 F5scope
  have F6instrument := past hw (Or.inr (tw 63 rfl)) (Or.inr (tw 69 rfl)) (by decide) (t := .object "java/lang/String") (by decide) (t' := .object "java/lang/Long") (by decide) W6 F5instrument
  have F6kind := past hw (Or.inr (tw 65 rfl)) (Or.inr (tw 69 rfl)) (by decide) (t := .object "com/example/rollcall/rollcall/Event$Kind") (by decide) (t' := .object "java/lang/Long") (by decide) W6 F5kind
  have F6standing := past hw (Or.inr (tw 67 rfl)) (Or.inr (tw 69 rfl)) (by decide) (t := .object "com/example/rollcall/rollcall/Standing") (by decide) (t' := .object "java/lang/Long") (by decide) W6 F5
  have F6changes := past hw (Or.inr (tw 71 rfl)) (Or.inr (tw 69 rfl)) (by decide) (t := .object "java/util/SortedMap") (by decide) (t' := .object "java/lang/Long") (by decide) W6 F5changes
  have KK6 := Keep.trans KK5 K6 (fun x hx => Or.inl hx)
  refine G.seg [(31, .aload_n 0, 1), (32, .aload 6, 2)] (by decide +kernel) (pc' := 34) (L' := #[.val (.ref t), .val (x), .val (.null), .val (.ref k), .val (.null), .val (.null), .val (.ref mp)]) (S' := [.ref mp, .ref t]) rfl ?_
  refine G.putF (C := "com/example/rollcall/rollcall/Event") (by decide +kernel) (tw 70 rfl) F6changes E6 (Or.inr ⟨(tw 71 rfl), rfl, rfl⟩) (tw 38 rfl) (ty := .object "java/util/SortedMap") (by decide) rfl rfl ht (Or.inr (by decide)) ?_
  intro h7 W7 K7 F7 E7
  have F7scope := past hw (Or.inr (tw 61 rfl)) (Or.inr (tw 71 rfl)) (by decide) (t := .object "java/lang/String") (by decide) (t' := .object "java/util/SortedMap") (by decide) W7 F6scope
  have F7instrument := past hw (Or.inr (tw 63 rfl)) (Or.inr (tw 71 rfl)) (by decide) (t := .object "java/lang/String") (by decide) (t' := .object "java/util/SortedMap") (by decide) W7 F6instrument
  have F7kind := past hw (Or.inr (tw 65 rfl)) (Or.inr (tw 71 rfl)) (by decide) (t := .object "com/example/rollcall/rollcall/Event$Kind") (by decide) (t' := .object "java/util/SortedMap") (by decide) W7 F6kind
  have F7standing := past hw (Or.inr (tw 67 rfl)) (Or.inr (tw 71 rfl)) (by decide) (t := .object "com/example/rollcall/rollcall/Standing") (by decide) (t' := .object "java/util/SortedMap") (by decide) W7 F6standing
  have F7at := past hw (Or.inr (tw 69 rfl)) (Or.inr (tw 71 rfl)) (by decide) (t := .object "java/lang/Long") (by decide) (t' := .object "java/util/SortedMap") (by decide) W7 F6
  have KK7 := Keep.trans KK6 K7 (fun x hx => Or.inl hx)
  exact G.retV (by decide +kernel) rfl ⟨rfl, KK7, E7, F7scope, F7instrument, F7kind, F7standing, F7at, F7⟩ (lb rfl) (lb rfl)

set_option maxRecDepth 65536 in
set_option maxHeartbeats 4000000 in
theorem esmC (l : Launch) (Z : State) (a0 : Array Value) (n0 : Nat) (h : Heap) (mp : Addr) (hE : EM Z mp) :
    Ct l Z a0 consts_1 tables_1 [] n0 ⟨"java/util/Collections", "emptySortedMap", "()Ljava/util/SortedMap;"⟩ jdk_79_method_69_code 0 (some (.object "java/util/SortedMap")) ({ frames := 0, cells := 0, slots := 0, locals := 0 } : Room) #[] h (fun v h' => h' = h ∧ v = some (.ref mp)) := by
  refine Ct.of_body pn3 (L0 := #[]) (fun m => by exact ef_of rfl) (fun hEL hw hO => ?_)
  refine G.getSN (by decide +kernel) (tw 49 rfl) hE ?_
  exact G.retA (by decide +kernel) rfl rfl rfl rfl ⟨rfl, rfl⟩ (lb rfl) (lb rfl)

def EvP (Z : State) (h : Heap) (t : Addr) (x : Value) (k : Addr) : Prop := Exa Z h t "com/example/rollcall/rollcall/Event" ∧ Fld Z h t "com/example/rollcall/rollcall/Event" "scope" "Ljava/lang/String;" x ∧ Fld Z h t "com/example/rollcall/rollcall/Event" "instrument" "Ljava/lang/String;" .null ∧ Fld Z h t "com/example/rollcall/rollcall/Event" "kind" "Lcom/example/rollcall/rollcall/Event$Kind;" (.ref k) ∧ Fld Z h t "com/example/rollcall/rollcall/Event" "standing" "Lcom/example/rollcall/rollcall/Standing;" .null ∧ Fld Z h t "com/example/rollcall/rollcall/Event" "at" "Ljava/lang/Long;" .null
set_option maxRecDepth 65536 in
set_option maxHeartbeats 4000000 in
theorem i5C (l : Launch) (Z : State) (a0 : Array Value) (n0 : Nat) (h : Heap) (t : Addr) (x : Value) (k mp : Addr) (hx : x.isRef = true) (hE : EM Z mp) (ht : n0 ≤ t) (E : Exa Z h t "com/example/rollcall/rollcall/Event") (Fscope : Fld Z h t "com/example/rollcall/rollcall/Event" "scope" "Ljava/lang/String;" .null) (Finstrument : Fld Z h t "com/example/rollcall/rollcall/Event" "instrument" "Ljava/lang/String;" .null) (Fkind : Fld Z h t "com/example/rollcall/rollcall/Event" "kind" "Lcom/example/rollcall/rollcall/Event$Kind;" .null) (Fstanding : Fld Z h t "com/example/rollcall/rollcall/Event" "standing" "Lcom/example/rollcall/rollcall/Standing;" .null) (Fat : Fld Z h t "com/example/rollcall/rollcall/Event" "at" "Ljava/lang/Long;" .null) (Fchanges : Fld Z h t "com/example/rollcall/rollcall/Event" "changes" "Ljava/util/SortedMap;" .null) :
    Ct l Z a0 consts_1 tables_1 [] n0 ⟨"com/example/rollcall/rollcall/Event", "<init>", "(Ljava/lang/String;Ljava/lang/String;Lcom/example/rollcall/rollcall/Event$Kind;Lcom/example/rollcall/rollcall/Standing;Ljava/lang/Long;)V"⟩ prog_4_method_1_code 6 (none) ({ frames := 3, cells := 0, slots := 0, locals := 42 } : Room) #[.ref t, x, .null, .ref k, .null, .null] h (fun v h' => v = none ∧ Keep h h' [t] ∧ EvP Z h' t x k) := by
  refine Ct.of_body pn2 (L0 := #[.val (.ref t), .val (x), .val (.null), .val (.ref k), .val (.null), .val (.null)]) (fun m => by rcases ref_cases hx with rfl | ⟨_, rfl⟩ <;> exact ef_of rfl) (fun hEL hw hO => ?_)
  refine G.seg [(0, .aload_n 0, 1)] (by decide +kernel) (pc' := 1) (L' := #[.val (.ref t), .val (x), .val (.null), .val (.ref k), .val (.null), .val (.null)]) (S' := [.ref t]) rfl ?_
  refine G.aloadVn (k := 1) (by decide +kernel) rfl hx ?_
  refine G.seg [(2, .aload_n 2, 1), (3, .aload_n 3, 1), (4, .aload 4, 2), (6, .aload 5, 2)] (by decide +kernel) (pc' := 8) (L' := #[.val (.ref t), .val (x), .val (.null), .val (.ref k), .val (.null), .val (.null)]) (S' := [.null, .null, .ref k, .null, x, .ref t]) rfl ?_
  refine G.static (y := ⟨"java/util/Collections", "emptySortedMap", "()Ljava/util/SortedMap;"⟩) (argsL := []) (rest := [.null, .null, .ref k, .null, x, .ref t]) (W := 6) (by decide +kernel) (tw 45 rfl) (tw 46 rfl) (tw 47 rfl) (tw 48 rfl) (by decide) ((esmC l Z a0 n0 h mp hE).pays (tw 48 rfl) (tw 47 rfl) (lb rfl) (lb rfl)) (lenOf pd1 rfl) rfl (by simp [XT.cat1 hx] <;> simp [Value.category]) rfl (lb rfl) (lb rfl) ?_
  rintro _ h1 ⟨rfl, rfl⟩
  refine G.special (y := ⟨"com/example/rollcall/rollcall/Event", "<init>", "(Ljava/lang/String;Ljava/lang/String;Lcom/example/rollcall/rollcall/Event$Kind;Lcom/example/rollcall/rollcall/Standing;Ljava/lang/Long;Ljava/util/SortedMap;)V"⟩) (a := t) (argsL := [x, .null, .ref k, .null, .null, .ref mp]) (rest := []) (W := 0) rfl (by decide +kernel) (tw 51 rfl) (tw 52 rfl) (tw 53 rfl) (by decide) ((i6C l Z a0 n0 h1 t x k mp hx ht E Fscope Finstrument Fkind Fstanding Fat Fchanges).pays (tw 53 rfl) (tw 35 rfl) (lb rfl) (lb rfl)) (lenOf pd2 rfl) rfl (Nat.le_of_eq rfl) rfl (lb rfl) (lb rfl) ?_
  rintro _ h2 ⟨rfl, K2, E2, a, b, c, d, e, f⟩
  exact G.retV (by decide +kernel) rfl ⟨rfl, K2, E2, a, b, c, d, e⟩ (lb rfl) (lb rfl)

set_option maxRecDepth 65536 in
set_option maxHeartbeats 4000000 in
theorem gapC (l : Launch) (Z : State) (a0 : Array Value) (n0 : Nat) (h : Heap) (x : Value) (k mp : Addr) (hx : x.isRef = true) (hG : KG Z k) (hE : EM Z mp) :
    Ct l Z a0 consts_1 tables_1 [] n0 ⟨"com/example/rollcall/rollcall/Event", "gap", "(Ljava/lang/String;)Lcom/example/rollcall/rollcall/Event;"⟩ prog_4_method_3_code 1 (some (.object "com/example/rollcall/rollcall/Event")) ({ frames := 4, cells := 1, slots := 6, locals := 60 } : Room) #[x] h (fun v h' => ∃ t, v = some (.ref t) ∧ Keep h h' [] ∧ EvP Z h' t x k) := by
  refine Ct.of_body pn2 (L0 := #[.val (x)]) (fun m => by rcases ref_cases hx with rfl | ⟨_, rfl⟩ <;> exact ef_of rfl) (fun hEL hw hO => ?_)
  refine G.new (by decide +kernel) (tw 37 rfl) (tw 38 rfl) (tw 35 rfl) (lb rfl) (lb rfl) ?_
  intro h1 t g1 n1 K1 E1 D1
  refine G.seg [(3, .dup, 1)] (by decide +kernel) (pc' := 4) (L' := #[.val (x)]) (S' := [.ref t, .ref t]) rfl ?_
  refine G.aloadVn (k := 0) (by decide +kernel) rfl hx ?_
  refine G.seg [(5, .aconst_null, 1)] (by decide +kernel) (pc' := 6) (L' := #[.val (x)]) (S' := [.null, x, .ref t, .ref t]) rfl ?_
  refine G.getS (by decide +kernel) (tw 39 rfl) hG ?_
  refine G.seg [(9, .aconst_null, 1), (10, .aconst_null, 1)] (by decide +kernel) (pc' := 11) (L' := #[.val (x)]) (S' := [.null, .null, .ref k, .null, x, .ref t, .ref t]) rfl ?_
  refine G.special (y := ⟨"com/example/rollcall/rollcall/Event", "<init>", "(Ljava/lang/String;Ljava/lang/String;Lcom/example/rollcall/rollcall/Event$Kind;Lcom/example/rollcall/rollcall/Standing;Ljava/lang/Long;)V"⟩) (a := t) (argsL := [x, .null, .ref k, .null, .null]) (rest := [.ref t]) (W := 1) rfl (by decide +kernel) (tw 42 rfl) (tw 43 rfl) (tw 44 rfl) (by decide) ((i5C l Z a0 n0 h1 t x k mp hx hE n1 E1 (D1 (Or.inr (tw 61 rfl)) (ty := .object "java/lang/String") (by decide)) (D1 (Or.inr (tw 63 rfl)) (ty := .object "java/lang/String") (by decide)) (D1 (Or.inr (tw 65 rfl)) (ty := .object "com/example/rollcall/rollcall/Event$Kind") (by decide)) (D1 (Or.inr (tw 67 rfl)) (ty := .object "com/example/rollcall/rollcall/Standing") (by decide)) (D1 (Or.inr (tw 69 rfl)) (ty := .object "java/lang/Long") (by decide)) (D1 (Or.inr (tw 71 rfl)) (ty := .object "java/util/SortedMap") (by decide))).pays (tw 44 rfl) (tw 35 rfl) (lb rfl) (lb rfl)) (lenOf pd3 rfl) rfl (Nat.le_of_eq rfl) rfl (lb rfl) (lb rfl) ?_
  rintro _ h2 ⟨rfl, K2, P2⟩
  exact G.retA (by decide +kernel) rfl rfl rfl rfl ⟨t, rfl, K1.trans K2 (allS (Or.inr (Nat.le_of_eq g1.symm)) all0), P2⟩ (lb rfl) (lb rfl)

set_option maxRecDepth 65536 in
set_option maxHeartbeats 4000000 in
theorem scopeC (l : Launch) (Z : State) (a0 : Array Value) (n0 : Nat) (h : Heap) (t : Addr) (x : Value) (hx : x.isRef = true) (F : Fld Z h t "com/example/rollcall/rollcall/Event" "scope" "Ljava/lang/String;" (x)) :
    Ct l Z a0 consts_1 tables_1 [] n0 ⟨"com/example/rollcall/rollcall/Event", "scope", "()Ljava/lang/String;"⟩ prog_4_method_7_code 1 (some (.object "java/lang/String")) ({ frames := 0, cells := 0, slots := 0, locals := 0 } : Room) #[.ref t] h (fun v h' => h' = h ∧ v = some (x)) := by
  refine Ct.of_body pn2 (L0 := #[.val (.ref t)]) (fun m => by exact ef_of rfl) (fun hEL hw hO => ?_)
  refine G.seg [(0, .aload_n 0, 1)] (by decide +kernel) (pc' := 1) (L' := #[.val (.ref t)]) (S' := [.ref t]) rfl ?_
  refine G.getF (by decide +kernel) (tw 60 rfl) F ?_
  exact G.retA (by decide +kernel) rfl rfl rfl hx ⟨rfl, rfl⟩ (lb rfl) (lb rfl)

set_option maxRecDepth 65536 in
set_option maxHeartbeats 4000000 in
theorem instrumentC (l : Launch) (Z : State) (a0 : Array Value) (n0 : Nat) (h : Heap) (t : Addr) (x : Value) (hx : x.isRef = true) (F : Fld Z h t "com/example/rollcall/rollcall/Event" "instrument" "Ljava/lang/String;" (x)) :
    Ct l Z a0 consts_1 tables_1 [] n0 ⟨"com/example/rollcall/rollcall/Event", "instrument", "()Ljava/lang/String;"⟩ prog_4_method_8_code 1 (some (.object "java/lang/String")) ({ frames := 0, cells := 0, slots := 0, locals := 0 } : Room) #[.ref t] h (fun v h' => h' = h ∧ v = some (x)) := by
  refine Ct.of_body pn2 (L0 := #[.val (.ref t)]) (fun m => by exact ef_of rfl) (fun hEL hw hO => ?_)
  refine G.seg [(0, .aload_n 0, 1)] (by decide +kernel) (pc' := 1) (L' := #[.val (.ref t)]) (S' := [.ref t]) rfl ?_
  refine G.getF (by decide +kernel) (tw 62 rfl) F ?_
  exact G.retA (by decide +kernel) rfl rfl rfl hx ⟨rfl, rfl⟩ (lb rfl) (lb rfl)

set_option maxRecDepth 65536 in
set_option maxHeartbeats 4000000 in
theorem kindC (l : Launch) (Z : State) (a0 : Array Value) (n0 : Nat) (h : Heap) (t : Addr) (x : Value) (hx : x.isRef = true) (F : Fld Z h t "com/example/rollcall/rollcall/Event" "kind" "Lcom/example/rollcall/rollcall/Event$Kind;" (x)) :
    Ct l Z a0 consts_1 tables_1 [] n0 ⟨"com/example/rollcall/rollcall/Event", "kind", "()Lcom/example/rollcall/rollcall/Event$Kind;"⟩ prog_4_method_9_code 1 (some (.object "com/example/rollcall/rollcall/Event$Kind")) ({ frames := 0, cells := 0, slots := 0, locals := 0 } : Room) #[.ref t] h (fun v h' => h' = h ∧ v = some (x)) := by
  refine Ct.of_body pn2 (L0 := #[.val (.ref t)]) (fun m => by exact ef_of rfl) (fun hEL hw hO => ?_)
  refine G.seg [(0, .aload_n 0, 1)] (by decide +kernel) (pc' := 1) (L' := #[.val (.ref t)]) (S' := [.ref t]) rfl ?_
  refine G.getF (by decide +kernel) (tw 64 rfl) F ?_
  exact G.retA (by decide +kernel) rfl rfl rfl hx ⟨rfl, rfl⟩ (lb rfl) (lb rfl)

set_option maxRecDepth 65536 in
set_option maxHeartbeats 4000000 in
theorem standingC (l : Launch) (Z : State) (a0 : Array Value) (n0 : Nat) (h : Heap) (t : Addr) (x : Value) (hx : x.isRef = true) (F : Fld Z h t "com/example/rollcall/rollcall/Event" "standing" "Lcom/example/rollcall/rollcall/Standing;" (x)) :
    Ct l Z a0 consts_1 tables_1 [] n0 ⟨"com/example/rollcall/rollcall/Event", "standing", "()Lcom/example/rollcall/rollcall/Standing;"⟩ prog_4_method_10_code 1 (some (.object "com/example/rollcall/rollcall/Standing")) ({ frames := 0, cells := 0, slots := 0, locals := 0 } : Room) #[.ref t] h (fun v h' => h' = h ∧ v = some (x)) := by
  refine Ct.of_body pn2 (L0 := #[.val (.ref t)]) (fun m => by exact ef_of rfl) (fun hEL hw hO => ?_)
  refine G.seg [(0, .aload_n 0, 1)] (by decide +kernel) (pc' := 1) (L' := #[.val (.ref t)]) (S' := [.ref t]) rfl ?_
  refine G.getF (by decide +kernel) (tw 66 rfl) F ?_
  exact G.retA (by decide +kernel) rfl rfl rfl hx ⟨rfl, rfl⟩ (lb rfl) (lb rfl)

set_option maxRecDepth 65536 in
set_option maxHeartbeats 4000000 in
theorem atC (l : Launch) (Z : State) (a0 : Array Value) (n0 : Nat) (h : Heap) (t : Addr) (x : Value) (hx : x.isRef = true) (F : Fld Z h t "com/example/rollcall/rollcall/Event" "at" "Ljava/lang/Long;" (x)) :
    Ct l Z a0 consts_1 tables_1 [] n0 ⟨"com/example/rollcall/rollcall/Event", "at", "()Ljava/lang/Long;"⟩ prog_4_method_11_code 1 (some (.object "java/lang/Long")) ({ frames := 0, cells := 0, slots := 0, locals := 0 } : Room) #[.ref t] h (fun v h' => h' = h ∧ v = some (x)) := by
  refine Ct.of_body pn2 (L0 := #[.val (.ref t)]) (fun m => by exact ef_of rfl) (fun hEL hw hO => ?_)
  refine G.seg [(0, .aload_n 0, 1)] (by decide +kernel) (pc' := 1) (L' := #[.val (.ref t)]) (S' := [.ref t]) rfl ?_
  refine G.getF (by decide +kernel) (tw 68 rfl) F ?_
  exact G.retA (by decide +kernel) rfl rfl rfl hx ⟨rfl, rfl⟩ (lb rfl) (lb rfl)

set_option maxRecDepth 65536 in
set_option maxHeartbeats 4000000 in
theorem lawC (l : Launch) (Z : State) (a0 : Array Value) (n0 : Nat) (h : Heap) (pn p0 p1 p2 pz : Int32) (k mp : Addr) (hCS : CS Z) (hG : KG Z k) (hE : EM Z mp) :
    Ct l Z a0 consts_1 tables_1 tables_1 n0 x code maxLocals ret room_1 #[.int pn, .int p0, .int p1, .int p2, .int pz] h (fun v _ => v = some (.int 1)) := by
  refine Ct.of_body pn4 (L0 := #[.val (.int pn), .val (.int p0), .val (.int p1), .val (.int p2), .val (.int pz), .unset, .unset, .unset, .unset, .unset, .unset, .unset, .unset, .unset, .unset, .unset, .unset, .unset, .unset, .unset]) (fun m => ef_of rfl) (fun hEL hw hO => ?_)
  refine G.seg [(0, .iload_n 1, 1), (1, .sipush 255, 3), (4, .iand, 1), (5, .i2c, 1), (6, .istore 5, 2)] (by decide +kernel) (pc' := 8) (L' := #[.val (.int pn), .val (.int p0), .val (.int p1), .val (.int p2), .val (.int pz), .val (.int ((p0 &&& (255 : Int32)).toUInt32.toUInt16.toUInt32.toInt32)), .unset, .unset, .unset, .unset, .unset, .unset, .unset, .unset, .unset, .unset, .unset, .unset, .unset, .unset]) (S' := []) rfl ?_
  refine G.seg [(8, .iload_n 2, 1), (9, .sipush 255, 3), (12, .iand, 1), (13, .i2c, 1), (14, .istore 6, 2)] (by decide +kernel) (pc' := 16) (L' := #[.val (.int pn), .val (.int p0), .val (.int p1), .val (.int p2), .val (.int pz), .val (.int ((p0 &&& (255 : Int32)).toUInt32.toUInt16.toUInt32.toInt32)), .val (.int ((p1 &&& (255 : Int32)).toUInt32.toUInt16.toUInt32.toInt32)), .unset, .unset, .unset, .unset, .unset, .unset, .unset, .unset, .unset, .unset, .unset, .unset, .unset]) (S' := []) rfl ?_
  refine G.seg [(16, .iload_n 3, 1), (17, .sipush 255, 3), (20, .iand, 1), (21, .i2c, 1), (22, .istore 7, 2)] (by decide +kernel) (pc' := 24) (L' := #[.val (.int pn), .val (.int p0), .val (.int p1), .val (.int p2), .val (.int pz), .val (.int ((p0 &&& (255 : Int32)).toUInt32.toUInt16.toUInt32.toInt32)), .val (.int ((p1 &&& (255 : Int32)).toUInt32.toUInt16.toUInt32.toInt32)), .val (.int ((p2 &&& (255 : Int32)).toUInt32.toUInt16.toUInt32.toInt32)), .unset, .unset, .unset, .unset, .unset, .unset, .unset, .unset, .unset, .unset, .unset, .unset]) (S' := []) rfl ?_
  refine G.seg [(24, .iconst 0, 1)] (by decide +kernel) (pc' := 25) (L' := #[.val (.int pn), .val (.int p0), .val (.int p1), .val (.int p2), .val (.int pz), .val (.int ((p0 &&& (255 : Int32)).toUInt32.toUInt16.toUInt32.toInt32)), .val (.int ((p1 &&& (255 : Int32)).toUInt32.toUInt16.toUInt32.toInt32)), .val (.int ((p2 &&& (255 : Int32)).toUInt32.toUInt16.toUInt32.toInt32)), .unset, .unset, .unset, .unset, .unset, .unset, .unset, .unset, .unset, .unset, .unset, .unset]) (S' := [.int (0 : Int32)]) rfl ?_
  have hc0 : b8 _ := b8_ci (b8_and p0)
  generalize gc0 : (p0 &&& (255 : Int32)).toUInt32.toUInt16.toUInt32.toInt32 = c0 at hc0 ⊢
  have hc1 : b8 _ := b8_ci (b8_and p1)
  generalize gc1 : (p1 &&& (255 : Int32)).toUInt32.toUInt16.toUInt32.toInt32 = c1 at hc1 ⊢
  have hc2 : b8 _ := b8_ci (b8_and p2)
  generalize gc2 : (p2 &&& (255 : Int32)).toUInt32.toUInt16.toUInt32.toInt32 = c2 at hc2 ⊢
  refine G.newarr (aty := .char) (ty := .char) (cap := 0) rfl (by decide +kernel) (tw 0 rfl) (by decide) (lb rfl) (lb rfl) (lb rfl) (lb rfl) ?_
  intro h1 a1 k1 g1 n1 K1 A1
  have R0 := A1
  refine G.seg [(27, .astore 8, 2)] (by decide +kernel) (pc' := 29) (L' := #[.val (.int pn), .val (.int p0), .val (.int p1), .val (.int p2), .val (.int pz), .val (.int c0), .val (.int c1), .val (.int c2), .val (.ref a1), .unset, .unset, .unset, .unset, .unset, .unset, .unset, .unset, .unset, .unset, .unset]) (S' := []) rfl ?_
  refine G.seg [(29, .iconst 1, 1)] (by decide +kernel) (pc' := 30) (L' := #[.val (.int pn), .val (.int p0), .val (.int p1), .val (.int p2), .val (.int pz), .val (.int c0), .val (.int c1), .val (.int c2), .val (.ref a1), .unset, .unset, .unset, .unset, .unset, .unset, .unset, .unset, .unset, .unset, .unset]) (S' := [.int (1 : Int32)]) rfl ?_
  refine G.newarr (aty := .char) (ty := .char) (cap := 1) rfl (by decide +kernel) (tw 0 rfl) (by decide) (lb rfl) (lb rfl) (lb rfl) (lb rfl) ?_
  intro h2 a2 k2 g2 n2 K2 A2
  refine G.seg [(32, .dup, 1), (33, .iconst 0, 1), (34, .iload 5, 2)] (by decide +kernel) (pc' := 36) (L' := #[.val (.int pn), .val (.int p0), .val (.int p1), .val (.int p2), .val (.int pz), .val (.int c0), .val (.int c1), .val (.int c2), .val (.ref a1), .unset, .unset, .unset, .unset, .unset, .unset, .unset, .unset, .unset, .unset, .unset]) (S' := [.int c0, .int (0 : Int32), .ref a2, .ref a2]) rfl ?_
  refine G.castore (i := 0) (x' := c0) (by decide +kernel) A2 n2 ⟨by decide, by decide⟩ rfl (lb rfl) (nar_b8 hc0) ?_
  intro h3 K3 A3
  have KA3 := Keep.trans K2 K3 (allS (Or.inr (Nat.le_of_eq g2.symm)) all0)
  have R0 := R0.keep KA3 nin0
  have R1 := A3
  refine G.seg [(37, .astore 9, 2)] (by decide +kernel) (pc' := 39) (L' := #[.val (.int pn), .val (.int p0), .val (.int p1), .val (.int p2), .val (.int pz), .val (.int c0), .val (.int c1), .val (.int c2), .val (.ref a1), .val (.ref a2), .unset, .unset, .unset, .unset, .unset, .unset, .unset, .unset, .unset, .unset]) (S' := []) rfl ?_
  refine G.seg [(39, .iconst 2, 1)] (by decide +kernel) (pc' := 40) (L' := #[.val (.int pn), .val (.int p0), .val (.int p1), .val (.int p2), .val (.int pz), .val (.int c0), .val (.int c1), .val (.int c2), .val (.ref a1), .val (.ref a2), .unset, .unset, .unset, .unset, .unset, .unset, .unset, .unset, .unset, .unset]) (S' := [.int (2 : Int32)]) rfl ?_
  refine G.newarr (aty := .char) (ty := .char) (cap := 2) rfl (by decide +kernel) (tw 0 rfl) (by decide) (lb rfl) (lb rfl) (lb rfl) (lb rfl) ?_
  intro h4 a4 k4 g4 n4 K4 A4
  refine G.seg [(42, .dup, 1), (43, .iconst 0, 1), (44, .iload 5, 2)] (by decide +kernel) (pc' := 46) (L' := #[.val (.int pn), .val (.int p0), .val (.int p1), .val (.int p2), .val (.int pz), .val (.int c0), .val (.int c1), .val (.int c2), .val (.ref a1), .val (.ref a2), .unset, .unset, .unset, .unset, .unset, .unset, .unset, .unset, .unset, .unset]) (S' := [.int c0, .int (0 : Int32), .ref a4, .ref a4]) rfl ?_
  refine G.castore (i := 0) (x' := c0) (by decide +kernel) A4 n4 ⟨by decide, by decide⟩ rfl (lb rfl) (nar_b8 hc0) ?_
  intro h5 K5 A5
  have KA5 := Keep.trans K4 K5 (allS (Or.inr (Nat.le_of_eq g4.symm)) all0)
  refine G.seg [(47, .dup, 1), (48, .iconst 1, 1), (49, .iload 6, 2)] (by decide +kernel) (pc' := 51) (L' := #[.val (.int pn), .val (.int p0), .val (.int p1), .val (.int p2), .val (.int pz), .val (.int c0), .val (.int c1), .val (.int c2), .val (.ref a1), .val (.ref a2), .unset, .unset, .unset, .unset, .unset, .unset, .unset, .unset, .unset, .unset]) (S' := [.int c1, .int (1 : Int32), .ref a4, .ref a4]) rfl ?_
  refine G.castore (i := 1) (x' := c1) (by decide +kernel) A5 n4 ⟨by decide, by decide⟩ rfl (lb rfl) (nar_b8 hc1) ?_
  intro h6 K6 A6
  have KA6 := Keep.trans KA5 K6 (allS (Or.inr (Nat.le_of_eq g4.symm)) all0)
  have R0 := R0.keep KA6 nin0
  have R1 := R1.keep KA6 nin0
  have R2 := A6
  refine G.seg [(52, .astore 10, 2)] (by decide +kernel) (pc' := 54) (L' := #[.val (.int pn), .val (.int p0), .val (.int p1), .val (.int p2), .val (.int pz), .val (.int c0), .val (.int c1), .val (.int c2), .val (.ref a1), .val (.ref a2), .val (.ref a4), .unset, .unset, .unset, .unset, .unset, .unset, .unset, .unset, .unset]) (S' := []) rfl ?_
  refine G.seg [(54, .iconst 3, 1)] (by decide +kernel) (pc' := 55) (L' := #[.val (.int pn), .val (.int p0), .val (.int p1), .val (.int p2), .val (.int pz), .val (.int c0), .val (.int c1), .val (.int c2), .val (.ref a1), .val (.ref a2), .val (.ref a4), .unset, .unset, .unset, .unset, .unset, .unset, .unset, .unset, .unset]) (S' := [.int (3 : Int32)]) rfl ?_
  refine G.newarr (aty := .char) (ty := .char) (cap := 3) rfl (by decide +kernel) (tw 0 rfl) (by decide) (lb rfl) (lb rfl) (lb rfl) (lb rfl) ?_
  intro h7 a7 k7 g7 n7 K7 A7
  refine G.seg [(57, .dup, 1), (58, .iconst 0, 1), (59, .iload 5, 2)] (by decide +kernel) (pc' := 61) (L' := #[.val (.int pn), .val (.int p0), .val (.int p1), .val (.int p2), .val (.int pz), .val (.int c0), .val (.int c1), .val (.int c2), .val (.ref a1), .val (.ref a2), .val (.ref a4), .unset, .unset, .unset, .unset, .unset, .unset, .unset, .unset, .unset]) (S' := [.int c0, .int (0 : Int32), .ref a7, .ref a7]) rfl ?_
  refine G.castore (i := 0) (x' := c0) (by decide +kernel) A7 n7 ⟨by decide, by decide⟩ rfl (lb rfl) (nar_b8 hc0) ?_
  intro h8 K8 A8
  have KA8 := Keep.trans K7 K8 (allS (Or.inr (Nat.le_of_eq g7.symm)) all0)
  refine G.seg [(62, .dup, 1), (63, .iconst 1, 1), (64, .iload 6, 2)] (by decide +kernel) (pc' := 66) (L' := #[.val (.int pn), .val (.int p0), .val (.int p1), .val (.int p2), .val (.int pz), .val (.int c0), .val (.int c1), .val (.int c2), .val (.ref a1), .val (.ref a2), .val (.ref a4), .unset, .unset, .unset, .unset, .unset, .unset, .unset, .unset, .unset]) (S' := [.int c1, .int (1 : Int32), .ref a7, .ref a7]) rfl ?_
  refine G.castore (i := 1) (x' := c1) (by decide +kernel) A8 n7 ⟨by decide, by decide⟩ rfl (lb rfl) (nar_b8 hc1) ?_
  intro h9 K9 A9
  have KA9 := Keep.trans KA8 K9 (allS (Or.inr (Nat.le_of_eq g7.symm)) all0)
  refine G.seg [(67, .dup, 1), (68, .iconst 2, 1), (69, .iload 7, 2)] (by decide +kernel) (pc' := 71) (L' := #[.val (.int pn), .val (.int p0), .val (.int p1), .val (.int p2), .val (.int pz), .val (.int c0), .val (.int c1), .val (.int c2), .val (.ref a1), .val (.ref a2), .val (.ref a4), .unset, .unset, .unset, .unset, .unset, .unset, .unset, .unset, .unset]) (S' := [.int c2, .int (2 : Int32), .ref a7, .ref a7]) rfl ?_
  refine G.castore (i := 2) (x' := c2) (by decide +kernel) A9 n7 ⟨by decide, by decide⟩ rfl (lb rfl) (nar_b8 hc2) ?_
  intro h10 K10 A10
  have KA10 := Keep.trans KA9 K10 (allS (Or.inr (Nat.le_of_eq g7.symm)) all0)
  have R0 := R0.keep KA10 nin0
  have R1 := R1.keep KA10 nin0
  have R2 := R2.keep KA10 nin0
  have R3 := A10
  refine G.seg [(72, .astore 11, 2)] (by decide +kernel) (pc' := 74) (L' := #[.val (.int pn), .val (.int p0), .val (.int p1), .val (.int p2), .val (.int pz), .val (.int c0), .val (.int c1), .val (.int c2), .val (.ref a1), .val (.ref a2), .val (.ref a4), .val (.ref a7), .unset, .unset, .unset, .unset, .unset, .unset, .unset, .unset]) (S' := []) rfl ?_
  refine G.new (by decide +kernel) (tw 1 rfl) (tw 2 rfl) (tw 3 rfl) (lb rfl) (lb rfl) ?_
  intro h11 a11 g11 n11 K11 E11 D11
  refine G.seg [(77, .dup, 1), (78, .aload 8, 2)] (by decide +kernel) (pc' := 80) (L' := #[.val (.int pn), .val (.int p0), .val (.int p1), .val (.int p2), .val (.int pz), .val (.int c0), .val (.int c1), .val (.int c2), .val (.ref a1), .val (.ref a2), .val (.ref a4), .val (.ref a7), .unset, .unset, .unset, .unset, .unset, .unset, .unset, .unset]) (S' := [.ref a1, .ref a11, .ref a11]) rfl ?_
  refine G.special (y := N1) (a := a11) (argsL := [.ref a1]) (rest := [.ref a11]) (W := 1) rfl (by decide +kernel) (tw 4 rfl) (tw 5 rfl) (tw 6 rfl) (by decide)
    (newStr (cs := []) sw1 swE hm7 n11 E11 (D11 (Or.inr (tw 16 rfl)) (ty := .array (.byte)) (by decide)) (D11 (Or.inr (tw 17 rfl)) (ty := .byte) (by decide)) (R0.keep K11 nin0) hCS (lat0) (lb rfl) (lb rfl) (lb rfl)) (lenOf pdN1 rfl) rfl (Nat.le_of_eq rfl) rfl (lb rfl) (lb rfl) ?_
  rintro _ h12 ⟨rfl, K12, F12⟩
  have KS12 : Keep h10 h12 [] := ((Keep.refl h10 []).trans K11 all0).trans K12 (allS (Or.inr (Nat.le_trans (Keep.refl h10 []).1 (Nat.le_of_eq g11.symm))) all0)
  have R1 := R1.keep KS12 nin0
  have R2 := R2.keep KS12 nin0
  have R3 := R3.keep KS12 nin0
  have S0 := F12
  refine G.seg [(83, .astore 12, 2)] (by decide +kernel) (pc' := 85) (L' := #[.val (.int pn), .val (.int p0), .val (.int p1), .val (.int p2), .val (.int pz), .val (.int c0), .val (.int c1), .val (.int c2), .val (.ref a1), .val (.ref a2), .val (.ref a4), .val (.ref a7), .val (.ref a11), .unset, .unset, .unset, .unset, .unset, .unset, .unset]) (S' := []) rfl ?_
  refine G.new (by decide +kernel) (tw 1 rfl) (tw 2 rfl) (tw 3 rfl) (lb rfl) (lb rfl) ?_
  intro h13 a13 g13 n13 K13 E13 D13
  refine G.seg [(88, .dup, 1), (89, .aload 9, 2)] (by decide +kernel) (pc' := 91) (L' := #[.val (.int pn), .val (.int p0), .val (.int p1), .val (.int p2), .val (.int pz), .val (.int c0), .val (.int c1), .val (.int c2), .val (.ref a1), .val (.ref a2), .val (.ref a4), .val (.ref a7), .val (.ref a11), .unset, .unset, .unset, .unset, .unset, .unset, .unset]) (S' := [.ref a2, .ref a13, .ref a13]) rfl ?_
  refine G.special (y := N1) (a := a13) (argsL := [.ref a2]) (rest := [.ref a13]) (W := 1) rfl (by decide +kernel) (tw 4 rfl) (tw 5 rfl) (tw 6 rfl) (by decide)
    (newStr (cs := [c0]) sw1 swE hm7 n13 E13 (D13 (Or.inr (tw 16 rfl)) (ty := .array (.byte)) (by decide)) (D13 (Or.inr (tw 17 rfl)) (ty := .byte) (by decide)) (R1.keep K13 nin0) hCS (latS hc0 (lat0)) (lb rfl) (lb rfl) (lb rfl)) (lenOf pdN1 rfl) rfl (Nat.le_of_eq rfl) rfl (lb rfl) (lb rfl) ?_
  rintro _ h14 ⟨rfl, K14, F14⟩
  have KS14 : Keep h12 h14 [] := ((Keep.refl h12 []).trans K13 all0).trans K14 (allS (Or.inr (Nat.le_trans (Keep.refl h12 []).1 (Nat.le_of_eq g13.symm))) all0)
  have R2 := R2.keep KS14 nin0
  have R3 := R3.keep KS14 nin0
  have S0 := S0.keep0 KS14
  have S1 := F14
  refine G.seg [(94, .astore 13, 2)] (by decide +kernel) (pc' := 96) (L' := #[.val (.int pn), .val (.int p0), .val (.int p1), .val (.int p2), .val (.int pz), .val (.int c0), .val (.int c1), .val (.int c2), .val (.ref a1), .val (.ref a2), .val (.ref a4), .val (.ref a7), .val (.ref a11), .val (.ref a13), .unset, .unset, .unset, .unset, .unset, .unset]) (S' := []) rfl ?_
  refine G.new (by decide +kernel) (tw 1 rfl) (tw 2 rfl) (tw 3 rfl) (lb rfl) (lb rfl) ?_
  intro h15 a15 g15 n15 K15 E15 D15
  refine G.seg [(99, .dup, 1), (100, .aload 10, 2)] (by decide +kernel) (pc' := 102) (L' := #[.val (.int pn), .val (.int p0), .val (.int p1), .val (.int p2), .val (.int pz), .val (.int c0), .val (.int c1), .val (.int c2), .val (.ref a1), .val (.ref a2), .val (.ref a4), .val (.ref a7), .val (.ref a11), .val (.ref a13), .unset, .unset, .unset, .unset, .unset, .unset]) (S' := [.ref a4, .ref a15, .ref a15]) rfl ?_
  refine G.special (y := N1) (a := a15) (argsL := [.ref a4]) (rest := [.ref a15]) (W := 1) rfl (by decide +kernel) (tw 4 rfl) (tw 5 rfl) (tw 6 rfl) (by decide)
    (newStr (cs := [c0, c1]) sw1 swE hm7 n15 E15 (D15 (Or.inr (tw 16 rfl)) (ty := .array (.byte)) (by decide)) (D15 (Or.inr (tw 17 rfl)) (ty := .byte) (by decide)) (R2.keep K15 nin0) hCS (latS hc0 (latS hc1 (lat0))) (lb rfl) (lb rfl) (lb rfl)) (lenOf pdN1 rfl) rfl (Nat.le_of_eq rfl) rfl (lb rfl) (lb rfl) ?_
  rintro _ h16 ⟨rfl, K16, F16⟩
  have KS16 : Keep h14 h16 [] := ((Keep.refl h14 []).trans K15 all0).trans K16 (allS (Or.inr (Nat.le_trans (Keep.refl h14 []).1 (Nat.le_of_eq g15.symm))) all0)
  have R3 := R3.keep KS16 nin0
  have S0 := S0.keep0 KS16
  have S1 := S1.keep0 KS16
  have S2 := F16
  refine G.seg [(105, .astore 14, 2)] (by decide +kernel) (pc' := 107) (L' := #[.val (.int pn), .val (.int p0), .val (.int p1), .val (.int p2), .val (.int pz), .val (.int c0), .val (.int c1), .val (.int c2), .val (.ref a1), .val (.ref a2), .val (.ref a4), .val (.ref a7), .val (.ref a11), .val (.ref a13), .val (.ref a15), .unset, .unset, .unset, .unset, .unset]) (S' := []) rfl ?_
  refine G.new (by decide +kernel) (tw 1 rfl) (tw 2 rfl) (tw 3 rfl) (lb rfl) (lb rfl) ?_
  intro h17 a17 g17 n17 K17 E17 D17
  refine G.seg [(110, .dup, 1), (111, .aload 11, 2)] (by decide +kernel) (pc' := 113) (L' := #[.val (.int pn), .val (.int p0), .val (.int p1), .val (.int p2), .val (.int pz), .val (.int c0), .val (.int c1), .val (.int c2), .val (.ref a1), .val (.ref a2), .val (.ref a4), .val (.ref a7), .val (.ref a11), .val (.ref a13), .val (.ref a15), .unset, .unset, .unset, .unset, .unset]) (S' := [.ref a7, .ref a17, .ref a17]) rfl ?_
  refine G.special (y := N1) (a := a17) (argsL := [.ref a7]) (rest := [.ref a17]) (W := 1) rfl (by decide +kernel) (tw 4 rfl) (tw 5 rfl) (tw 6 rfl) (by decide)
    (newStr (cs := [c0, c1, c2]) sw1 swE hm7 n17 E17 (D17 (Or.inr (tw 16 rfl)) (ty := .array (.byte)) (by decide)) (D17 (Or.inr (tw 17 rfl)) (ty := .byte) (by decide)) (R3.keep K17 nin0) hCS (latS hc0 (latS hc1 (latS hc2 (lat0)))) (lb rfl) (lb rfl) (lb rfl)) (lenOf pdN1 rfl) rfl (Nat.le_of_eq rfl) rfl (lb rfl) (lb rfl) ?_
  rintro _ h18 ⟨rfl, K18, F18⟩
  have KS18 : Keep h16 h18 [] := ((Keep.refl h16 []).trans K17 all0).trans K18 (allS (Or.inr (Nat.le_trans (Keep.refl h16 []).1 (Nat.le_of_eq g17.symm))) all0)
  have S0 := S0.keep0 KS18
  have S1 := S1.keep0 KS18
  have S2 := S2.keep0 KS18
  have S3 := F18
  refine G.seg [(116, .astore 15, 2)] (by decide +kernel) (pc' := 118) (L' := #[.val (.int pn), .val (.int p0), .val (.int p1), .val (.int p2), .val (.int pz), .val (.int c0), .val (.int c1), .val (.int c2), .val (.ref a1), .val (.ref a2), .val (.ref a4), .val (.ref a7), .val (.ref a11), .val (.ref a13), .val (.ref a15), .val (.ref a17), .unset, .unset, .unset, .unset]) (S' := []) rfl ?_
  refine G.seg [(118, .iload_n 0, 1), (119, .iconst 3, 1), (120, .iand, 1), (121, .istore 16, 2)] (by decide +kernel) (pc' := 123) (L' := #[.val (.int pn), .val (.int p0), .val (.int p1), .val (.int p2), .val (.int pz), .val (.int c0), .val (.int c1), .val (.int c2), .val (.ref a1), .val (.ref a2), .val (.ref a4), .val (.ref a7), .val (.ref a11), .val (.ref a13), .val (.ref a15), .val (.ref a17), .val (.int (pn &&& (3 : Int32))), .unset, .unset, .unset]) (S' := []) rfl ?_
  refine G.seg [(123, .iload 16, 2)] (by decide +kernel) (pc' := 125) (L' := #[.val (.int pn), .val (.int p0), .val (.int p1), .val (.int p2), .val (.int pz), .val (.int c0), .val (.int c1), .val (.int c2), .val (.ref a1), .val (.ref a2), .val (.ref a4), .val (.ref a7), .val (.ref a11), .val (.ref a13), .val (.ref a15), .val (.ref a17), .val (.int (pn &&& (3 : Int32))), .unset, .unset, .unset]) (S' := [.int (pn &&& (3 : Int32))]) rfl ?_
  have hn := and3 pn
  generalize gn : pn &&& (3 : Int32) = n at hn ⊢
  refine G.join (fun s : Addr => ∃ cs, Str Z h18 s cs ∧ Int32.ofNat cs.length = n) (fun s : Addr => (h18, 16, 44, 157, #[.val (.int pn), .val (.int p0), .val (.int p1), .val (.int p2), .val (.int pz), .val (.int c0), .val (.int c1), .val (.int c2), .val (.ref a1), .val (.ref a2), .val (.ref a4), .val (.ref a7), .val (.ref a11), .val (.ref a13), .val (.ref a15), .val (.ref a17), .val (.int n), .unset, .unset, .unset], [.ref s])) ?_ ?_
  · intro J19
    refine G.ifne (o := (8)) (pc' := 133) (by decide +kernel) (by decide) rfl ?_ ?_
    · intro q20
      refine G.seg [(133, .iload 16, 2), (135, .iconst 1, 1)] (by decide +kernel) (pc' := 136) (L' := #[.val (.int pn), .val (.int p0), .val (.int p1), .val (.int p2), .val (.int pz), .val (.int c0), .val (.int c1), .val (.int c2), .val (.ref a1), .val (.ref a2), .val (.ref a4), .val (.ref a7), .val (.ref a11), .val (.ref a13), .val (.ref a15), .val (.ref a17), .val (.int n), .unset, .unset, .unset]) (S' := [.int (1 : Int32), .int n]) rfl ?_
      refine G.icne (o := (8)) (pc' := 144) (by decide +kernel) (by decide) rfl ?_ ?_
      · intro q21
        refine G.seg [(144, .iload 16, 2), (146, .iconst 2, 1)] (by decide +kernel) (pc' := 147) (L' := #[.val (.int pn), .val (.int p0), .val (.int p1), .val (.int p2), .val (.int pz), .val (.int c0), .val (.int c1), .val (.int c2), .val (.ref a1), .val (.ref a2), .val (.ref a4), .val (.ref a7), .val (.ref a11), .val (.ref a13), .val (.ref a15), .val (.ref a17), .val (.int n), .unset, .unset, .unset]) (S' := [.int (2 : Int32), .int n]) rfl ?_
        refine G.icne (o := (8)) (pc' := 155) (by decide +kernel) (by decide) rfl ?_ ?_
        · intro q22
          refine G.seg [(155, .aload 15, 2)] (by decide +kernel) (pc' := 157) (L' := #[.val (.int pn), .val (.int p0), .val (.int p1), .val (.int p2), .val (.int pz), .val (.int c0), .val (.int c1), .val (.int c2), .val (.ref a1), .val (.ref a2), .val (.ref a4), .val (.ref a7), .val (.ref a11), .val (.ref a13), .val (.ref a15), .val (.ref a17), .val (.int n), .unset, .unset, .unset]) (S' := [.ref a17]) rfl ?_
          exact J19 a17 (⟨_, S3, (by rcases hn with e | e | e | e <;> first | exact absurd e q20 | exact absurd e q21 | exact absurd e q22 | (rw [e]; rfl))⟩)
        · intro q22
          refine G.seg [(150, .aload 14, 2), (152, .goto 5, 3)] (by decide +kernel) (pc' := 157) (L' := #[.val (.int pn), .val (.int p0), .val (.int p1), .val (.int p2), .val (.int pz), .val (.int c0), .val (.int c1), .val (.int c2), .val (.ref a1), .val (.ref a2), .val (.ref a4), .val (.ref a7), .val (.ref a11), .val (.ref a13), .val (.ref a15), .val (.ref a17), .val (.int n), .unset, .unset, .unset]) (S' := [.ref a15]) rfl ?_
          exact J19 a15 (⟨_, S2, (by rw [q22]; rfl)⟩)
      · intro q21
        refine G.seg [(139, .aload 13, 2), (141, .goto 16, 3)] (by decide +kernel) (pc' := 157) (L' := #[.val (.int pn), .val (.int p0), .val (.int p1), .val (.int p2), .val (.int pz), .val (.int c0), .val (.int c1), .val (.int c2), .val (.ref a1), .val (.ref a2), .val (.ref a4), .val (.ref a7), .val (.ref a11), .val (.ref a13), .val (.ref a15), .val (.ref a17), .val (.int n), .unset, .unset, .unset]) (S' := [.ref a13]) rfl ?_
        exact J19 a13 (⟨_, S1, (by rw [q21]; rfl)⟩)
    · intro q20
      refine G.seg [(128, .aload 12, 2), (130, .goto 27, 3)] (by decide +kernel) (pc' := 157) (L' := #[.val (.int pn), .val (.int p0), .val (.int p1), .val (.int p2), .val (.int pz), .val (.int c0), .val (.int c1), .val (.int c2), .val (.ref a1), .val (.ref a2), .val (.ref a4), .val (.ref a7), .val (.ref a11), .val (.ref a13), .val (.ref a15), .val (.ref a17), .val (.int n), .unset, .unset, .unset]) (S' := [.ref a11]) rfl ?_
      exact J19 a11 (⟨_, S0, (by rw [q20]; rfl)⟩)
  rintro s ⟨cs, Ss, hl⟩
  dsimp only
  refine G.seg [(157, .astore 17, 2)] (by decide +kernel) (pc' := 159) (L' := #[.val (.int pn), .val (.int p0), .val (.int p1), .val (.int p2), .val (.int pz), .val (.int c0), .val (.int c1), .val (.int c2), .val (.ref a1), .val (.ref a2), .val (.ref a4), .val (.ref a7), .val (.ref a11), .val (.ref a13), .val (.ref a15), .val (.ref a17), .val (.int n), .val (.ref s), .unset, .unset]) (S' := []) rfl ?_
  refine G.seg [(159, .iload 4, 2), (161, .iconst 1, 1), (162, .iand, 1)] (by decide +kernel) (pc' := 163) (L' := #[.val (.int pn), .val (.int p0), .val (.int p1), .val (.int p2), .val (.int pz), .val (.int c0), .val (.int c1), .val (.int c2), .val (.ref a1), .val (.ref a2), .val (.ref a4), .val (.ref a7), .val (.ref a11), .val (.ref a13), .val (.ref a15), .val (.ref a17), .val (.int n), .val (.ref s), .unset, .unset]) (S' := [.int (pz &&& (1 : Int32))]) rfl ?_
  refine G.ifeq (o := (6)) (pc' := 169) (by decide +kernel) (by decide) rfl ?_ ?_
  · intro q23
    refine G.seg [(169, .aload 17, 2)] (by decide +kernel) (pc' := 171) (L' := #[.val (.int pn), .val (.int p0), .val (.int p1), .val (.int p2), .val (.int pz), .val (.int c0), .val (.int c1), .val (.int c2), .val (.ref a1), .val (.ref a2), .val (.ref a4), .val (.ref a7), .val (.ref a11), .val (.ref a13), .val (.ref a15), .val (.ref a17), .val (.int n), .val (.ref s), .unset, .unset]) (S' := [.ref s]) rfl ?_
    refine G.static (y := ⟨"com/example/rollcall/rollcall/Event", "gap", "(Ljava/lang/String;)Lcom/example/rollcall/rollcall/Event;"⟩) (argsL := [.ref s]) (rest := []) (W := 0) (by decide +kernel) (tw 33 rfl) (tw 34 rfl) (tw 35 rfl) (tw 36 rfl) (by decide) ((gapC l Z a0 n0 h18 (.ref s) k mp rfl hG hE).pays (tw 36 rfl) (tw 35 rfl) (lb rfl) (lb rfl)) (lenOf pd4 rfl) rfl (Nat.le_of_eq rfl) rfl (lb rfl) (lb rfl) ?_
    rintro _ h24 ⟨t, rfl, K24, P24⟩
    have St := Ss.keep0 K24
    refine G.seg [(174, .astore 18, 2)] (by decide +kernel) (pc' := 176) (L' := #[.val (.int pn), .val (.int p0), .val (.int p1), .val (.int p2), .val (.int pz), .val (.int c0), .val (.int c1), .val (.int c2), .val (.ref a1), .val (.ref a2), .val (.ref a4), .val (.ref a7), .val (.ref a11), .val (.ref a13), .val (.ref a15), .val (.ref a17), .val (.int n), .val (.ref s), .val (.ref t), .unset]) (S' := []) rfl ?_
    refine G.seg [(176, .aload 17, 2)] (by decide +kernel) (pc' := 178) (L' := #[.val (.int pn), .val (.int p0), .val (.int p1), .val (.int p2), .val (.int pz), .val (.int c0), .val (.int c1), .val (.int c2), .val (.ref a1), .val (.ref a2), .val (.ref a4), .val (.ref a7), .val (.ref a11), .val (.ref a13), .val (.ref a15), .val (.ref a17), .val (.int n), .val (.ref s), .val (.ref t), .unset]) (S' := [.ref s]) rfl ?_
    refine G.nonnulljmp (o := (21)) (pc' := 199) rfl (by decide +kernel) (by decide) rfl ?_ (fun q25 => absurd q25 (fun z => nomatch z))
    intro _
    refine G.seg [(199, .aload 18, 2)] (by decide +kernel) (pc' := 201) (L' := #[.val (.int pn), .val (.int p0), .val (.int p1), .val (.int p2), .val (.int pz), .val (.int c0), .val (.int c1), .val (.int c2), .val (.ref a1), .val (.ref a2), .val (.ref a4), .val (.ref a7), .val (.ref a11), .val (.ref a13), .val (.ref a15), .val (.ref a17), .val (.int n), .val (.ref s), .val (.ref t), .unset]) (S' := [.ref t]) rfl ?_
    refine G.virtual (y := ⟨"com/example/rollcall/rollcall/Event", "scope", "()Ljava/lang/String;"⟩) (C := "com/example/rollcall/rollcall/Event") (a := t) (argsL := []) (rest := []) (W := 0) (by decide +kernel) (tw 72 rfl) (tw 73 rfl) (tw 75 rfl) (tw 74 rfl) (by decide) P24.1 ((scopeC l Z a0 n0 h24 t (.ref s) rfl P24.2.1).pays (tw 76 rfl) (tw 35 rfl) (lb rfl) (lb rfl)) (lenOf pd5 rfl) rfl (Nat.le_of_eq rfl) rfl (lb rfl) (lb rfl) ?_
    rintro _ h26 ⟨rfl, rfl⟩
    refine G.nulljmp (o := (33)) (pc' := 237) rfl (by decide +kernel) (by decide) rfl (fun q27 => absurd q27 (fun z => nomatch z)) ?_
    intro _
    refine G.seg [(207, .aload 18, 2)] (by decide +kernel) (pc' := 209) (L' := #[.val (.int pn), .val (.int p0), .val (.int p1), .val (.int p2), .val (.int pz), .val (.int c0), .val (.int c1), .val (.int c2), .val (.ref a1), .val (.ref a2), .val (.ref a4), .val (.ref a7), .val (.ref a11), .val (.ref a13), .val (.ref a15), .val (.ref a17), .val (.int n), .val (.ref s), .val (.ref t), .unset]) (S' := [.ref t]) rfl ?_
    refine G.virtual (y := ⟨"com/example/rollcall/rollcall/Event", "scope", "()Ljava/lang/String;"⟩) (C := "com/example/rollcall/rollcall/Event") (a := t) (argsL := []) (rest := []) (W := 0) (by decide +kernel) (tw 72 rfl) (tw 73 rfl) (tw 75 rfl) (tw 74 rfl) (by decide) P24.1 ((scopeC l Z a0 n0 h26 t (.ref s) rfl P24.2.1).pays (tw 76 rfl) (tw 35 rfl) (lb rfl) (lb rfl)) (lenOf pd5 rfl) rfl (Nat.le_of_eq rfl) rfl (lb rfl) (lb rfl) ?_
    rintro _ h28 ⟨rfl, rfl⟩
    refine G.seg [(212, .aload 17, 2)] (by decide +kernel) (pc' := 214) (L' := #[.val (.int pn), .val (.int p0), .val (.int p1), .val (.int p2), .val (.int pz), .val (.int c0), .val (.int c1), .val (.int c2), .val (.ref a1), .val (.ref a2), .val (.ref a4), .val (.ref a7), .val (.ref a11), .val (.ref a13), .val (.ref a15), .val (.ref a17), .val (.int n), .val (.ref s), .val (.ref t), .unset]) (S' := [.ref s, .ref s]) rfl ?_
    refine G.virtual (y := ⟨"java/lang/String", "equals", "(Ljava/lang/Object;)Z"⟩) (C := "java/lang/String") (a := s) (argsL := [.ref s]) (rest := []) (W := 0) (by decide +kernel) (tw 77 rfl) (tw 78 rfl) (tw 80 rfl) (tw 79 rfl) (by decide) St.1 ((eqselfC l Z a0 n0 h28 s).pays (tw 81 rfl) (tw 3 rfl) (lb rfl) (lb rfl)) (lenOf pd6 rfl) rfl (Nat.le_of_eq rfl) rfl (lb rfl) (lb rfl) ?_
    rintro _ h29 ⟨rfl, rfl⟩
    refine G.ifeq (o := (20)) (pc' := 237) (by decide +kernel) (by decide) rfl (fun q30 => absurd q30 (by decide)) ?_
    intro _
    refine G.seg [(220, .aload 18, 2)] (by decide +kernel) (pc' := 222) (L' := #[.val (.int pn), .val (.int p0), .val (.int p1), .val (.int p2), .val (.int pz), .val (.int c0), .val (.int c1), .val (.int c2), .val (.ref a1), .val (.ref a2), .val (.ref a4), .val (.ref a7), .val (.ref a11), .val (.ref a13), .val (.ref a15), .val (.ref a17), .val (.int n), .val (.ref s), .val (.ref t), .unset]) (S' := [.ref t]) rfl ?_
    refine G.virtual (y := ⟨"com/example/rollcall/rollcall/Event", "scope", "()Ljava/lang/String;"⟩) (C := "com/example/rollcall/rollcall/Event") (a := t) (argsL := []) (rest := []) (W := 0) (by decide +kernel) (tw 72 rfl) (tw 73 rfl) (tw 75 rfl) (tw 74 rfl) (by decide) P24.1 ((scopeC l Z a0 n0 h29 t (.ref s) rfl P24.2.1).pays (tw 76 rfl) (tw 35 rfl) (lb rfl) (lb rfl)) (lenOf pd5 rfl) rfl (Nat.le_of_eq rfl) rfl (lb rfl) (lb rfl) ?_
    rintro _ h31 ⟨rfl, rfl⟩
    refine G.virtual (y := ⟨"java/lang/String", "length", "()I"⟩) (C := "java/lang/String") (a := s) (argsL := []) (rest := []) (W := 0) (by decide +kernel) (tw 82 rfl) (tw 83 rfl) (tw 85 rfl) (tw 84 rfl) (by decide) St.1 (lenB swL (tw 2 rfl) St hCS (lb rfl) (lb rfl)) (lenOf pd7 rfl) rfl (Nat.le_of_eq rfl) rfl (lb rfl) (lb rfl) ?_
    rintro _ h32 ⟨rfl, rfl⟩
    refine G.seg [(228, .iload 16, 2)] (by decide +kernel) (pc' := 230) (L' := #[.val (.int pn), .val (.int p0), .val (.int p1), .val (.int p2), .val (.int pz), .val (.int c0), .val (.int c1), .val (.int c2), .val (.ref a1), .val (.ref a2), .val (.ref a4), .val (.ref a7), .val (.ref a11), .val (.ref a13), .val (.ref a15), .val (.ref a17), .val (.int n), .val (.ref s), .val (.ref t), .unset]) (S' := [.int n, .int (Int32.ofNat cs.length)]) rfl ?_
    refine G.icne (o := (7)) (pc' := 237) (by decide +kernel) (by decide) rfl (fun q33 => absurd hl q33) ?_
    intro _
    refine G.seg [(233, .iconst 1, 1), (234, .goto 4, 3), (238, .istore 19, 2)] (by decide +kernel) (pc' := 240) (L' := #[.val (.int pn), .val (.int p0), .val (.int p1), .val (.int p2), .val (.int pz), .val (.int c0), .val (.int c1), .val (.int c2), .val (.ref a1), .val (.ref a2), .val (.ref a4), .val (.ref a7), .val (.ref a11), .val (.ref a13), .val (.ref a15), .val (.ref a17), .val (.int n), .val (.ref s), .val (.ref t), .val (.int (1 : Int32))]) (S' := []) rfl ?_
    refine G.seg [(240, .iload 19, 2)] (by decide +kernel) (pc' := 242) (L' := #[.val (.int pn), .val (.int p0), .val (.int p1), .val (.int p2), .val (.int pz), .val (.int c0), .val (.int c1), .val (.int c2), .val (.ref a1), .val (.ref a2), .val (.ref a4), .val (.ref a7), .val (.ref a11), .val (.ref a13), .val (.ref a15), .val (.ref a17), .val (.int n), .val (.ref s), .val (.ref t), .val (.int (1 : Int32))]) (S' := [.int (1 : Int32)]) rfl ?_
    refine G.ifeq (o := (42)) (pc' := 284) (by decide +kernel) (by decide) rfl (fun q34 => absurd q34 (by decide)) ?_
    intro _
    obtain ⟨e0, f1, f2, f3, f4, f5⟩ := P24
    refine G.seg [(245, .aload 18, 2)] (by decide +kernel) (pc' := 247) (L' := #[.val (.int pn), .val (.int p0), .val (.int p1), .val (.int p2), .val (.int pz), .val (.int c0), .val (.int c1), .val (.int c2), .val (.ref a1), .val (.ref a2), .val (.ref a4), .val (.ref a7), .val (.ref a11), .val (.ref a13), .val (.ref a15), .val (.ref a17), .val (.int n), .val (.ref s), .val (.ref t), .val (.int (1 : Int32))]) (S' := [.ref t]) rfl ?_
    refine G.virtual (y := ⟨"com/example/rollcall/rollcall/Event", "instrument", "()Ljava/lang/String;"⟩) (C := "com/example/rollcall/rollcall/Event") (a := t) (argsL := []) (rest := []) (W := 0) (by decide +kernel) (tw 92 rfl) (tw 93 rfl) (tw 95 rfl) (tw 94 rfl) (by decide) e0 ((instrumentC l Z a0 n0 h32 t (.null) rfl f2).pays (tw 96 rfl) (tw 35 rfl) (lb rfl) (lb rfl)) (lenOf pd5 rfl) rfl (Nat.le_of_eq rfl) rfl (lb rfl) (lb rfl) ?_
    rintro _ h35 ⟨rfl, rfl⟩
    refine G.nonnulljmp (o := (34)) (pc' := 284) rfl (by decide +kernel) (by decide) rfl (fun q36 => absurd rfl q36) ?_
    intro _
    refine G.seg [(253, .aload 18, 2)] (by decide +kernel) (pc' := 255) (L' := #[.val (.int pn), .val (.int p0), .val (.int p1), .val (.int p2), .val (.int pz), .val (.int c0), .val (.int c1), .val (.int c2), .val (.ref a1), .val (.ref a2), .val (.ref a4), .val (.ref a7), .val (.ref a11), .val (.ref a13), .val (.ref a15), .val (.ref a17), .val (.int n), .val (.ref s), .val (.ref t), .val (.int (1 : Int32))]) (S' := [.ref t]) rfl ?_
    refine G.virtual (y := ⟨"com/example/rollcall/rollcall/Event", "kind", "()Lcom/example/rollcall/rollcall/Event$Kind;"⟩) (C := "com/example/rollcall/rollcall/Event") (a := t) (argsL := []) (rest := []) (W := 0) (by decide +kernel) (tw 97 rfl) (tw 98 rfl) (tw 100 rfl) (tw 99 rfl) (by decide) e0 ((kindC l Z a0 n0 h35 t (.ref k) rfl f3).pays (tw 101 rfl) (tw 35 rfl) (lb rfl) (lb rfl)) (lenOf pd8 rfl) rfl (Nat.le_of_eq rfl) rfl (lb rfl) (lb rfl) ?_
    rintro _ h37 ⟨rfl, rfl⟩
    refine G.getS (by decide +kernel) (tw 102 rfl) hG ?_
    refine G.acne (o := (23)) (pc' := 284) rfl rfl (by decide +kernel) (by decide) rfl (fun q38 => absurd rfl q38) ?_
    intro _
    refine G.seg [(264, .aload 18, 2)] (by decide +kernel) (pc' := 266) (L' := #[.val (.int pn), .val (.int p0), .val (.int p1), .val (.int p2), .val (.int pz), .val (.int c0), .val (.int c1), .val (.int c2), .val (.ref a1), .val (.ref a2), .val (.ref a4), .val (.ref a7), .val (.ref a11), .val (.ref a13), .val (.ref a15), .val (.ref a17), .val (.int n), .val (.ref s), .val (.ref t), .val (.int (1 : Int32))]) (S' := [.ref t]) rfl ?_
    refine G.virtual (y := ⟨"com/example/rollcall/rollcall/Event", "standing", "()Lcom/example/rollcall/rollcall/Standing;"⟩) (C := "com/example/rollcall/rollcall/Event") (a := t) (argsL := []) (rest := []) (W := 0) (by decide +kernel) (tw 103 rfl) (tw 104 rfl) (tw 106 rfl) (tw 105 rfl) (by decide) e0 ((standingC l Z a0 n0 h37 t (.null) rfl f4).pays (tw 107 rfl) (tw 35 rfl) (lb rfl) (lb rfl)) (lenOf pd9 rfl) rfl (Nat.le_of_eq rfl) rfl (lb rfl) (lb rfl) ?_
    rintro _ h39 ⟨rfl, rfl⟩
    refine G.nonnulljmp (o := (15)) (pc' := 284) rfl (by decide +kernel) (by decide) rfl (fun q40 => absurd rfl q40) ?_
    intro _
    refine G.seg [(272, .aload 18, 2)] (by decide +kernel) (pc' := 274) (L' := #[.val (.int pn), .val (.int p0), .val (.int p1), .val (.int p2), .val (.int pz), .val (.int c0), .val (.int c1), .val (.int c2), .val (.ref a1), .val (.ref a2), .val (.ref a4), .val (.ref a7), .val (.ref a11), .val (.ref a13), .val (.ref a15), .val (.ref a17), .val (.int n), .val (.ref s), .val (.ref t), .val (.int (1 : Int32))]) (S' := [.ref t]) rfl ?_
    refine G.virtual (y := ⟨"com/example/rollcall/rollcall/Event", "at", "()Ljava/lang/Long;"⟩) (C := "com/example/rollcall/rollcall/Event") (a := t) (argsL := []) (rest := []) (W := 0) (by decide +kernel) (tw 108 rfl) (tw 109 rfl) (tw 111 rfl) (tw 110 rfl) (by decide) e0 ((atC l Z a0 n0 h39 t (.null) rfl f5).pays (tw 112 rfl) (tw 35 rfl) (lb rfl) (lb rfl)) (lenOf pd10 rfl) rfl (Nat.le_of_eq rfl) rfl (lb rfl) (lb rfl) ?_
    rintro _ h41 ⟨rfl, rfl⟩
    refine G.nonnulljmp (o := (7)) (pc' := 284) rfl (by decide +kernel) (by decide) rfl (fun q42 => absurd rfl q42) ?_
    intro _
    refine G.seg [(280, .iconst 1, 1), (281, .goto 4, 3)] (by decide +kernel) (pc' := 285) (L' := #[.val (.int pn), .val (.int p0), .val (.int p1), .val (.int p2), .val (.int pz), .val (.int c0), .val (.int c1), .val (.int c2), .val (.ref a1), .val (.ref a2), .val (.ref a4), .val (.ref a7), .val (.ref a11), .val (.ref a13), .val (.ref a15), .val (.ref a17), .val (.int n), .val (.ref s), .val (.ref t), .val (.int (1 : Int32))]) (S' := [.int (1 : Int32)]) rfl ?_
    exact G.retN (by decide +kernel) rfl (Or.inl rfl) rfl rfl (lb rfl) (lb rfl)
  · intro q23
    refine G.seg [(166, .aconst_null, 1), (167, .astore 17, 2)] (by decide +kernel) (pc' := 169) (L' := #[.val (.int pn), .val (.int p0), .val (.int p1), .val (.int p2), .val (.int pz), .val (.int c0), .val (.int c1), .val (.int c2), .val (.ref a1), .val (.ref a2), .val (.ref a4), .val (.ref a7), .val (.ref a11), .val (.ref a13), .val (.ref a15), .val (.ref a17), .val (.int n), .val (.null), .unset, .unset]) (S' := []) rfl ?_
    refine G.seg [(169, .aload 17, 2)] (by decide +kernel) (pc' := 171) (L' := #[.val (.int pn), .val (.int p0), .val (.int p1), .val (.int p2), .val (.int pz), .val (.int c0), .val (.int c1), .val (.int c2), .val (.ref a1), .val (.ref a2), .val (.ref a4), .val (.ref a7), .val (.ref a11), .val (.ref a13), .val (.ref a15), .val (.ref a17), .val (.int n), .val (.null), .unset, .unset]) (S' := [.null]) rfl ?_
    refine G.static (y := ⟨"com/example/rollcall/rollcall/Event", "gap", "(Ljava/lang/String;)Lcom/example/rollcall/rollcall/Event;"⟩) (argsL := [.null]) (rest := []) (W := 0) (by decide +kernel) (tw 33 rfl) (tw 34 rfl) (tw 35 rfl) (tw 36 rfl) (by decide) ((gapC l Z a0 n0 h18 .null k mp rfl hG hE).pays (tw 36 rfl) (tw 35 rfl) (lb rfl) (lb rfl)) (lenOf pd4 rfl) rfl (Nat.le_of_eq rfl) rfl (lb rfl) (lb rfl) ?_
    rintro _ h43 ⟨t, rfl, K43, P43⟩
    refine G.seg [(174, .astore 18, 2)] (by decide +kernel) (pc' := 176) (L' := #[.val (.int pn), .val (.int p0), .val (.int p1), .val (.int p2), .val (.int pz), .val (.int c0), .val (.int c1), .val (.int c2), .val (.ref a1), .val (.ref a2), .val (.ref a4), .val (.ref a7), .val (.ref a11), .val (.ref a13), .val (.ref a15), .val (.ref a17), .val (.int n), .val (.null), .val (.ref t), .unset]) (S' := []) rfl ?_
    refine G.seg [(176, .aload 17, 2)] (by decide +kernel) (pc' := 178) (L' := #[.val (.int pn), .val (.int p0), .val (.int p1), .val (.int p2), .val (.int pz), .val (.int c0), .val (.int c1), .val (.int c2), .val (.ref a1), .val (.ref a2), .val (.ref a4), .val (.ref a7), .val (.ref a11), .val (.ref a13), .val (.ref a15), .val (.ref a17), .val (.int n), .val (.null), .val (.ref t), .unset]) (S' := [.null]) rfl ?_
    refine G.nonnulljmp (o := (21)) (pc' := 199) rfl (by decide +kernel) (by decide) rfl (fun q44 => absurd rfl q44) ?_
    intro _
    refine G.seg [(181, .aload 18, 2)] (by decide +kernel) (pc' := 183) (L' := #[.val (.int pn), .val (.int p0), .val (.int p1), .val (.int p2), .val (.int pz), .val (.int c0), .val (.int c1), .val (.int c2), .val (.ref a1), .val (.ref a2), .val (.ref a4), .val (.ref a7), .val (.ref a11), .val (.ref a13), .val (.ref a15), .val (.ref a17), .val (.int n), .val (.null), .val (.ref t), .unset]) (S' := [.ref t]) rfl ?_
    refine G.virtual (y := ⟨"com/example/rollcall/rollcall/Event", "scope", "()Ljava/lang/String;"⟩) (C := "com/example/rollcall/rollcall/Event") (a := t) (argsL := []) (rest := []) (W := 0) (by decide +kernel) (tw 72 rfl) (tw 73 rfl) (tw 75 rfl) (tw 74 rfl) (by decide) P43.1 ((scopeC l Z a0 n0 h43 t .null rfl P43.2.1).pays (tw 76 rfl) (tw 35 rfl) (lb rfl) (lb rfl)) (lenOf pd5 rfl) rfl (Nat.le_of_eq rfl) rfl (lb rfl) (lb rfl) ?_
    rintro _ h45 ⟨rfl, rfl⟩
    refine G.nonnulljmp (o := (7)) (pc' := 193) rfl (by decide +kernel) (by decide) rfl (fun q46 => absurd rfl q46) ?_
    intro _
    refine G.seg [(189, .iconst 1, 1), (190, .goto 4, 3), (194, .istore 19, 2)] (by decide +kernel) (pc' := 196) (L' := #[.val (.int pn), .val (.int p0), .val (.int p1), .val (.int p2), .val (.int pz), .val (.int c0), .val (.int c1), .val (.int c2), .val (.ref a1), .val (.ref a2), .val (.ref a4), .val (.ref a7), .val (.ref a11), .val (.ref a13), .val (.ref a15), .val (.ref a17), .val (.int n), .val (.null), .val (.ref t), .val (.int (1 : Int32))]) (S' := []) rfl ?_
    refine G.seg [(196, .goto 44, 3), (240, .iload 19, 2)] (by decide +kernel) (pc' := 242) (L' := #[.val (.int pn), .val (.int p0), .val (.int p1), .val (.int p2), .val (.int pz), .val (.int c0), .val (.int c1), .val (.int c2), .val (.ref a1), .val (.ref a2), .val (.ref a4), .val (.ref a7), .val (.ref a11), .val (.ref a13), .val (.ref a15), .val (.ref a17), .val (.int n), .val (.null), .val (.ref t), .val (.int (1 : Int32))]) (S' := [.int (1 : Int32)]) rfl ?_
    refine G.ifeq (o := (42)) (pc' := 284) (by decide +kernel) (by decide) rfl (fun q47 => absurd q47 (by decide)) ?_
    intro _
    obtain ⟨e0, f1, f2, f3, f4, f5⟩ := P43
    refine G.seg [(245, .aload 18, 2)] (by decide +kernel) (pc' := 247) (L' := #[.val (.int pn), .val (.int p0), .val (.int p1), .val (.int p2), .val (.int pz), .val (.int c0), .val (.int c1), .val (.int c2), .val (.ref a1), .val (.ref a2), .val (.ref a4), .val (.ref a7), .val (.ref a11), .val (.ref a13), .val (.ref a15), .val (.ref a17), .val (.int n), .val (.null), .val (.ref t), .val (.int (1 : Int32))]) (S' := [.ref t]) rfl ?_
    refine G.virtual (y := ⟨"com/example/rollcall/rollcall/Event", "instrument", "()Ljava/lang/String;"⟩) (C := "com/example/rollcall/rollcall/Event") (a := t) (argsL := []) (rest := []) (W := 0) (by decide +kernel) (tw 92 rfl) (tw 93 rfl) (tw 95 rfl) (tw 94 rfl) (by decide) e0 ((instrumentC l Z a0 n0 h45 t (.null) rfl f2).pays (tw 96 rfl) (tw 35 rfl) (lb rfl) (lb rfl)) (lenOf pd5 rfl) rfl (Nat.le_of_eq rfl) rfl (lb rfl) (lb rfl) ?_
    rintro _ h48 ⟨rfl, rfl⟩
    refine G.nonnulljmp (o := (34)) (pc' := 284) rfl (by decide +kernel) (by decide) rfl (fun q49 => absurd rfl q49) ?_
    intro _
    refine G.seg [(253, .aload 18, 2)] (by decide +kernel) (pc' := 255) (L' := #[.val (.int pn), .val (.int p0), .val (.int p1), .val (.int p2), .val (.int pz), .val (.int c0), .val (.int c1), .val (.int c2), .val (.ref a1), .val (.ref a2), .val (.ref a4), .val (.ref a7), .val (.ref a11), .val (.ref a13), .val (.ref a15), .val (.ref a17), .val (.int n), .val (.null), .val (.ref t), .val (.int (1 : Int32))]) (S' := [.ref t]) rfl ?_
    refine G.virtual (y := ⟨"com/example/rollcall/rollcall/Event", "kind", "()Lcom/example/rollcall/rollcall/Event$Kind;"⟩) (C := "com/example/rollcall/rollcall/Event") (a := t) (argsL := []) (rest := []) (W := 0) (by decide +kernel) (tw 97 rfl) (tw 98 rfl) (tw 100 rfl) (tw 99 rfl) (by decide) e0 ((kindC l Z a0 n0 h48 t (.ref k) rfl f3).pays (tw 101 rfl) (tw 35 rfl) (lb rfl) (lb rfl)) (lenOf pd8 rfl) rfl (Nat.le_of_eq rfl) rfl (lb rfl) (lb rfl) ?_
    rintro _ h50 ⟨rfl, rfl⟩
    refine G.getS (by decide +kernel) (tw 102 rfl) hG ?_
    refine G.acne (o := (23)) (pc' := 284) rfl rfl (by decide +kernel) (by decide) rfl (fun q51 => absurd rfl q51) ?_
    intro _
    refine G.seg [(264, .aload 18, 2)] (by decide +kernel) (pc' := 266) (L' := #[.val (.int pn), .val (.int p0), .val (.int p1), .val (.int p2), .val (.int pz), .val (.int c0), .val (.int c1), .val (.int c2), .val (.ref a1), .val (.ref a2), .val (.ref a4), .val (.ref a7), .val (.ref a11), .val (.ref a13), .val (.ref a15), .val (.ref a17), .val (.int n), .val (.null), .val (.ref t), .val (.int (1 : Int32))]) (S' := [.ref t]) rfl ?_
    refine G.virtual (y := ⟨"com/example/rollcall/rollcall/Event", "standing", "()Lcom/example/rollcall/rollcall/Standing;"⟩) (C := "com/example/rollcall/rollcall/Event") (a := t) (argsL := []) (rest := []) (W := 0) (by decide +kernel) (tw 103 rfl) (tw 104 rfl) (tw 106 rfl) (tw 105 rfl) (by decide) e0 ((standingC l Z a0 n0 h50 t (.null) rfl f4).pays (tw 107 rfl) (tw 35 rfl) (lb rfl) (lb rfl)) (lenOf pd9 rfl) rfl (Nat.le_of_eq rfl) rfl (lb rfl) (lb rfl) ?_
    rintro _ h52 ⟨rfl, rfl⟩
    refine G.nonnulljmp (o := (15)) (pc' := 284) rfl (by decide +kernel) (by decide) rfl (fun q53 => absurd rfl q53) ?_
    intro _
    refine G.seg [(272, .aload 18, 2)] (by decide +kernel) (pc' := 274) (L' := #[.val (.int pn), .val (.int p0), .val (.int p1), .val (.int p2), .val (.int pz), .val (.int c0), .val (.int c1), .val (.int c2), .val (.ref a1), .val (.ref a2), .val (.ref a4), .val (.ref a7), .val (.ref a11), .val (.ref a13), .val (.ref a15), .val (.ref a17), .val (.int n), .val (.null), .val (.ref t), .val (.int (1 : Int32))]) (S' := [.ref t]) rfl ?_
    refine G.virtual (y := ⟨"com/example/rollcall/rollcall/Event", "at", "()Ljava/lang/Long;"⟩) (C := "com/example/rollcall/rollcall/Event") (a := t) (argsL := []) (rest := []) (W := 0) (by decide +kernel) (tw 108 rfl) (tw 109 rfl) (tw 111 rfl) (tw 110 rfl) (by decide) e0 ((atC l Z a0 n0 h52 t (.null) rfl f5).pays (tw 112 rfl) (tw 35 rfl) (lb rfl) (lb rfl)) (lenOf pd10 rfl) rfl (Nat.le_of_eq rfl) rfl (lb rfl) (lb rfl) ?_
    rintro _ h54 ⟨rfl, rfl⟩
    refine G.nonnulljmp (o := (7)) (pc' := 284) rfl (by decide +kernel) (by decide) rfl (fun q55 => absurd rfl q55) ?_
    intro _
    refine G.seg [(280, .iconst 1, 1), (281, .goto 4, 3)] (by decide +kernel) (pc' := 285) (L' := #[.val (.int pn), .val (.int p0), .val (.int p1), .val (.int p2), .val (.int pz), .val (.int c0), .val (.int c1), .val (.int c2), .val (.ref a1), .val (.ref a2), .val (.ref a4), .val (.ref a7), .val (.ref a11), .val (.ref a13), .val (.ref a15), .val (.ref a17), .val (.int n), .val (.null), .val (.ref t), .val (.int (1 : Int32))]) (S' := [.int (1 : Int32)]) rfl ?_
    exact G.retN (by decide +kernel) rfl (Or.inl rfl) rfl rfl (lb rfl) (lb rfl)

set_option maxRecDepth 65536 in
set_option maxHeartbeats 4000000 in
theorem comes_1 {Post : Tables → Env → Array Value → State → Outcome → State → Prop} (hpost : ∀ tb e args s v u, (limb_1_1.after args s (.returned v) u = true ∧ limb_1_2.after args s (.returned v) u = true ∧ True) → ReturnedEndW s (.returned v) u (Jvm.fieldLocs frame_1_writes args s ++ Jvm.arrayLocs frame_1_arrays args s ++ Jvm.staticLocs frame_1_statics s) room_1.cells room_1.slots → Post tb e args s (.returned v) u) :
    ArmFor flags0 classFile x code maxLocals ret World_1 tables_1 room_1 Calls_1 rest_1 Pre_1 Post := by
  intro l hfl _ _ p e ha hc hk s m args below hf hA hF happ hP
  obtain ⟨hcalls, hrest, hpre⟩ := hP
  obtain ⟨-, -, -, hnamed, -, -, -, hat⟩ := (Spec.applies_iff hf).mp happ
  obtain ⟨hg, hn⟩ := and_e (Cond.before_iff.mp (show (Jvm.Cond.and given_1 narrow_1).before args s = true from hpre))
  obtain ⟨hcount, hz0⟩ := and_e hg
  obtain ⟨ha0, hz1⟩ := and_e hz0
  obtain ⟨ha1, hz2⟩ := and_e hz1
  obtain ⟨ha2, hz3⟩ := and_e hz2
  obtain ⟨ha3, hz4⟩ := and_e hz3
  have ha4 := hz4
  obtain ⟨w0, w1, w2, w3, w4, rfl⟩ : ∃ w0 w1 w2 w3 w4 : Value, args = #[w0, w1, w2, w3, w4] := by
    have hs : args.size = 5 := by simpa [Cond.value, given_1] using hcount
    obtain ⟨L⟩ := args
    match L, hs with
    | [w0, w1, w2, w3, w4], _ => exact ⟨w0, w1, w2, w3, w4, rfl⟩
  obtain ⟨i0, e0⟩ := is_v ha0
  obtain rfl : w0 = (.int i0) := Option.some.inj e0
  obtain ⟨i1, e1⟩ := is_v ha1
  obtain rfl : w1 = (.int i1) := Option.some.inj e1
  obtain ⟨i2, e2⟩ := is_v ha2
  obtain rfl : w2 = (.int i2) := Option.some.inj e2
  obtain ⟨i3, e3⟩ := is_v ha3
  obtain rfl : w3 = (.int i3) := Option.some.inj e3
  obtain ⟨i4, e4⟩ := is_v ha4
  obtain rfl : w4 = (.int i4) := Option.some.inj e4
  have hw := fun d (hd : d ∈ tables_1) => atoms_spec (ws := Jvm.Cond.code x code maxLocals ret :: tables_1) hat d (List.mem_cons_of_mem _ hd)
  obtain ⟨hsets, hown0⟩ := atoms_of _ (rest_1_c_eq ▸ (show rest_1_c.before _ s = true from hrest))
  have n5 := not_v (Cond.before_iff.mp (hsets _ (List.mem_of_getElem? (i := 2) rfl)))
  obtain ⟨iC, eC⟩ := is_v (Cond.before_iff.mp (hsets _ (List.mem_of_getElem? (i := 1) rfl)))
  have hCS : CS s := ⟨iC, Sta.start eC (Or.inl (hsets _ (List.mem_of_getElem? (i := 0) rfl))), gotF (Cond.eq_ints eC (Term.int_eval (0))) n5⟩
  have hEL : EW s #[.int i0, .int i1, .int i2, .int i3, .int i4] consts_1 := EW.cons (hw _ (tw 14 rfl)) (by decide) (EW.nil)
  have hCH : CHv s consts_1 s.vm s.heap := CHv.start hEL (fun p hp => hcalls.1 p hp) (hsets _ (List.mem_of_getElem? (i := 2) rfl)) (hw _ (tw 15 rfl)) (hw _ (tw 2 rfl))
  obtain ⟨k0, ek0⟩ := exa_v hn
  have hG : KG s k0 := Sta.start ek0 (Or.inr ⟨hw _ (tw 40 rfl), hw _ (tw 41 rfl)⟩)
  obtain ⟨m0, em0⟩ := exa_v (Cond.before_iff.mp (hsets _ (List.mem_of_getElem? (i := 11) rfl)))
  have hE : EM s m0 := Sta.start em0 (Or.inl (hsets _ (List.mem_of_getElem? (i := 10) rfl)))
  obtain ⟨n, o, h1, h2, h3, v, L, rfl, ⟨N, -, rfl⟩, -, hR, -⟩ := (lawC l s _ s.heap.size s.heap i0 i1 i2 i3 i4 k0 m0 hCS hG hE) hEL hw (Old.start s) p e ha hc hk s m _ below hf ((Spec.applies_iff_loose hf).mp happ).1 ⟨rfl, State.Warmed39.refl s, rfl, hCH⟩ trivial
  exact ⟨n, _, h1, h2, h3, hpost _ _ _ _ _ _ ⟨Cond.after_iff.mpr rfl, Cond.after_iff.mpr (eq_i res_at (Term.int_eval (1)) rfl), trivial⟩ ⟨hR.1, hR.2.1, hR.2.2.1, (hR.2.2.2.sift fun y hy => Or.inr (N y hy)).mono (Nat.le_refl _) (Nat.le_refl _)⟩⟩
theorem main_1_1 : Claimed_1_1 := comes_1 fun _ _ _ _ _ _ h hF => ⟨h.1, hF⟩
theorem main_1_2 : Claimed_1_2 := comes_1 fun _ _ _ _ _ _ h hF => ⟨h.2.1, hF⟩
end Jvm.Pilot.@@N@@
namespace Jvm.Pilot.@@N@@
open Jvm Jvm.ClassFile Sem Op Lib Jvm.Free Jvm.Stand Jvm.Pilot.@@N@@.Jvm.D
/-! MADE BY PROGRAM (witnessworld.py) out of the Statement's table words and the real class files: 34 classes; the members and pool entries that the words name. The judged class is class 1, her method 1. -/
namespace start1
open Jvm.ClassFile
def u (s : String) : CpInfo := .utf8 (stringToUtf16 s)
/-- a pool by its gaps: so many unusable entries, then the entry; so many at the end -/
def gap : Nat → List CpInfo → List CpInfo
  | 0, r => r
  | n + 1, r => .unusable :: gap n r
def poolList (es : List (Nat × CpInfo)) (last : Nat) : List CpInfo := es.foldr (fun e r => gap e.1 (e.2 :: r)) (gap last [])
def pool (es : List (Nat × CpInfo)) (last : Nat) : Array CpInfo := ⟨poolList es last⟩
def fileOf (pool : Array CpInfo) (this : Nat) (attrs : Array Attribute := #[]) (ms : Array MethodInfo := #[]) (fl : Nat := 33) (sup : Nat := 0) (ifs : Array Nat := #[]) (fds : Array FieldInfo := #[]) : ClassFile where
  minorVersion := 0
  majorVersion := 65
  constantPool := pool
  accessFlags := fl
  thisClass := this
  superClass := sup
  interfaces := ifs
  fields := fds
  methods := ms
  attributes := attrs
def plain (name : String) (sup : Option ClassId) : Class where
  name := name
  kind := .ordinary
  loader := none
  accessFlags := 33
  super := sup
  interfaces := #[]
  cf := none
  fields := #[]
  methods := #[]
  instanceTypes := #[]
  staticTypes := #[]
  resolved := #[]
  callSites := []
  init := .initialized
  statics := none
  mirror := none

def pool0 : Array CpInfo := pool [(5, u "<init>"), (0, u "()V"), (1, .class_ 10), (1, u "java/lang/Object")] 113

def k0c0 : Code := { maxStack := 0, maxLocals := 1, code := object_method_1_code, exceptionTable := #[], attributes := #[] }
def k0m0 : Method := { name := "<init>", desc := "()V", sig := { parameters := [], returnType := none }, accessFlags := 1, code := some k0c0 }
/-- java/lang/Object -/
def k0 : Class := { plain "java/lang/Object" none with
  accessFlags := 33
  interfaces := #[]
  cf := some (fileOf pool0 8 #[] #[{ accessFlags := 1, nameIndex := 5, descriptorIndex := 6, attributes := #[] }] 33 0 #[] #[])
  fields := #[]
  methods := #[k0m0]
  instanceTypes := #[]
  staticTypes := #[]
  resolved := Array.replicate 124 none
  statics := none }

def pool1 : Array CpInfo := pool [(2, .class_ 4), (1, u "java/lang/Object"), (0, u "<init>"), (0, u "()V"), (0, .class_ 8), (0, u "java/lang/String"), (0, .methodref 7 10), (0, .nameAndType 5 11), (0, u "([C)V"), (0, .methodref 13 14), (0, .class_ 15), (0, .nameAndType 16 17), (0, u "com/example/rollcall/rollcall/Event"), (0, u "gap"), (0, u "(Ljava/lang/String;)Lcom/example/rollcall/rollcall/Event;"), (0, .methodref 13 19), (0, .nameAndType 20 21), (0, u "scope"), (0, u "()Ljava/lang/String;"), (0, .methodref 7 23), (0, .nameAndType 24 25), (0, u "equals"), (0, u "(Ljava/lang/Object;)Z"), (0, .methodref 7 27), (0, .nameAndType 28 29), (0, u "length"), (0, u "()I"), (0, .methodref 13 31), (0, .nameAndType 32 21), (0, u "instrument"), (0, .methodref 13 34), (0, .nameAndType 35 36), (0, u "kind"), (0, u "()Lcom/example/rollcall/rollcall/Event$Kind;"), (0, .fieldref 38 39), (0, .class_ 40), (0, .nameAndType 41 42), (0, u "com/example/rollcall/rollcall/Event$Kind"), (0, u "GAP"), (0, u "Lcom/example/rollcall/rollcall/Event$Kind;"), (0, .methodref 13 44), (0, .nameAndType 45 46), (0, u "standing"), (0, u "()Lcom/example/rollcall/rollcall/Standing;"), (0, .methodref 13 48), (0, .nameAndType 49 50), (0, u "at"), (0, u "()Ljava/lang/Long;"), (0, .class_ 52), (0, u "com/example/rollcall/rollcall/EventGapPinLaw"), (2, u "law"), (0, u "(IIIII)Z")] 7

def k1m0 : Method := { name := "<init>", desc := "()V", sig := { parameters := [], returnType := none }, accessFlags := 1, code := none }
def k1c1 : Code := { maxStack := 4, maxLocals := 20, code := code, exceptionTable := #[], attributes := #[] }
def k1m1 : Method := { name := "law", desc := "(IIIII)Z", sig := { parameters := [.int, .int, .int, .int, .int], returnType := some .boolean }, accessFlags := 9, code := some k1c1 }
/-- com/example/rollcall/rollcall/EventGapPinLaw -/
def k1 : Class := { plain "com/example/rollcall/rollcall/EventGapPinLaw" (some 0) with
  accessFlags := 49
  interfaces := #[]
  cf := some (fileOf pool1 51 #[] #[{ accessFlags := 1, nameIndex := 5, descriptorIndex := 6, attributes := #[] }, { accessFlags := 9, nameIndex := 55, descriptorIndex := 56, attributes := #[] }] 49 2 #[] #[])
  fields := #[]
  methods := #[k1m0, k1m1]
  instanceTypes := #[]
  staticTypes := #[]
  resolved := Array.replicate 64 none
  statics := none }

def pool2 : Array CpInfo := pool [(1, .class_ 2), (0, u "java/io/Serializable"), (0, .class_ 4), (0, u "java/lang/Object")] 2

/-- java/io/Serializable -/
def k2 : Class := { plain "java/io/Serializable" (some 0) with
  accessFlags := 1537
  interfaces := #[]
  cf := some (fileOf pool2 1 #[] #[] 1537 3 #[] #[])
  fields := #[]
  methods := #[]
  instanceTypes := #[]
  staticTypes := #[]
  resolved := Array.replicate 7 none
  statics := none }

def pool3 : Array CpInfo := pool [(1, .class_ 2), (0, u "java/lang/Comparable"), (0, .class_ 4), (0, u "java/lang/Object")] 7

/-- java/lang/Comparable -/
def k3 : Class := { plain "java/lang/Comparable" (some 0) with
  accessFlags := 1537
  interfaces := #[]
  cf := some (fileOf pool3 1 #[] #[] 1537 3 #[] #[])
  fields := #[]
  methods := #[]
  instanceTypes := #[]
  staticTypes := #[]
  resolved := Array.replicate 12 none
  statics := none }

def pool4 : Array CpInfo := pool [(2, .class_ 4), (1, u "java/lang/CharSequence"), (42, .class_ 48), (0, u "java/lang/CharSequence$1CodePointIterator"), (10, .class_ 60), (0, u "java/lang/CharSequence$1CharIterator"), (5, .class_ 67), (0, u "java/lang/Object")] 63

/-- java/lang/CharSequence -/
def k4 : Class := { plain "java/lang/CharSequence" (some 0) with
  accessFlags := 1537
  interfaces := #[]
  cf := some (fileOf pool4 2 #[.nestMembers #[47, 59]] #[] 1537 66 #[] #[])
  fields := #[]
  methods := #[]
  instanceTypes := #[]
  staticTypes := #[]
  resolved := Array.replicate 131 none
  statics := none }

def pool5 : Array CpInfo := pool [(1, .class_ 2), (0, u "java/lang/constant/Constable"), (0, .class_ 4), (0, u "java/lang/Object")] 6

/-- java/lang/constant/Constable -/
def k5 : Class := { plain "java/lang/constant/Constable" (some 0) with
  accessFlags := 1537
  interfaces := #[]
  cf := some (fileOf pool5 1 #[] #[] 1537 3 #[] #[])
  fields := #[]
  methods := #[]
  instanceTypes := #[]
  staticTypes := #[]
  resolved := Array.replicate 11 none
  statics := none }

def pool6 : Array CpInfo := pool [(1, .class_ 2), (0, u "java/lang/constant/ConstantDesc"), (0, .class_ 4), (0, u "java/lang/Object")] 32

/-- java/lang/constant/ConstantDesc -/
def k6 : Class := { plain "java/lang/constant/ConstantDesc" (some 0) with
  accessFlags := 1537
  interfaces := #[]
  cf := some (fileOf pool6 1 #[] #[] 1537 3 #[] #[])
  fields := #[]
  methods := #[]
  instanceTypes := #[]
  staticTypes := #[]
  resolved := Array.replicate 37 none
  statics := none }

def pool7 : Array CpInfo := pool [(1, .methodref 2 3), (0, .class_ 4), (0, .nameAndType 5 6), (0, u "java/lang/Object"), (0, u "<init>"), (0, u "()V"), (0, .string 8), (0, u ""), (0, .fieldref 10 11), (0, .class_ 12), (0, .nameAndType 13 14), (0, u "java/lang/String"), (0, u "value"), (0, u "[B"), (0, .fieldref 10 16), (0, .nameAndType 17 18), (0, u "coder"), (0, u "B"), (2, u "hash"), (0, u "I"), (2, u "hashIsZero"), (0, u "Z"), (0, .methodref 10 28), (0, .nameAndType 5 29), (0, u "([CIILjava/lang/Void;)V"), (8, .fieldref 10 39), (0, .nameAndType 40 26), (0, u "COMPACT_STRINGS"), (1, .class_ 44), (1, u "java/lang/StringUTF16"), (0, u "compress"), (1, .methodref 42 48), (0, .nameAndType 49 50), (0, u "coderFromArrayLen"), (0, u "([BI)B"), (126, .methodref 42 178), (0, .nameAndType 45 179), (0, u "([CII)[B"), (154, u "()I"), (0, .methodref 10 336), (0, .nameAndType 17 337), (0, u "()B"), (169, u "length"), (35, u "equals"), (29, u "(Ljava/lang/Object;)Z"), (1, .class_ 576), (0, u "java/lang/CharSequence"), (22, u "CASE_INSENSITIVE_ORDER"), (0, u "Ljava/util/Comparator;"), (409, u "([C)V"), (90, u "serialPersistentFields"), (0, u "[Ljava/io/ObjectStreamField;"), (0, .class_ 1104), (0, u "java/lang/String$CaseInsensitiveComparator"), (1, .class_ 1107), (0, u "java/io/Serializable"), (0, .class_ 1109), (0, u "java/lang/Comparable"), (0, .class_ 1111), (0, u "java/lang/constant/Constable"), (0, .class_ 1113), (0, u "java/lang/constant/ConstantDesc"), (2, u "serialVersionUID"), (0, u "J"), (3, u "REPL"), (0, u "C"), (2, u "LATIN1"), (1, u "UTF16")] 323

def k7m0 : Method := { name := "<init>", desc := "()V", sig := { parameters := [], returnType := none }, accessFlags := 1, code := none }
def k7c1 : Code := { maxStack := 5, maxLocals := 2, code := jdk_42_method_3_code, exceptionTable := #[], attributes := #[] }
def k7m1 : Method := { name := "<init>", desc := "([C)V", sig := { parameters := [(.array .char)], returnType := none }, accessFlags := 1, code := some k7c1 }
def k7c2 : Code := { maxStack := 2, maxLocals := 1, code := jdk_42_method_54_code, exceptionTable := #[], attributes := #[] }
def k7m2 : Method := { name := "length", desc := "()I", sig := { parameters := [], returnType := some .int }, accessFlags := 1, code := some k7c2 }
def k7c3 : Code := { maxStack := 2, maxLocals := 3, code := jdk_42_method_66_code, exceptionTable := #[], attributes := #[] }
def k7m3 : Method := { name := "equals", desc := "(Ljava/lang/Object;)Z", sig := { parameters := [(.object "java/lang/Object")], returnType := some .boolean }, accessFlags := 1, code := some k7c3 }
def k7c4 : Code := { maxStack := 4, maxLocals := 6, code := jdk_42_method_149_code, exceptionTable := #[], attributes := #[] }
def k7m4 : Method := { name := "<init>", desc := "([CIILjava/lang/Void;)V", sig := { parameters := [(.array .char), .int, .int, (.object "java/lang/Void")], returnType := none }, accessFlags := 2, code := some k7c4 }
def k7c5 : Code := { maxStack := 1, maxLocals := 1, code := jdk_42_method_152_code, exceptionTable := #[], attributes := #[] }
def k7m5 : Method := { name := "coder", desc := "()B", sig := { parameters := [], returnType := some .byte }, accessFlags := 0, code := some k7c5 }
/-- java/lang/String -/
def k7 : Class := { plain "java/lang/String" (some 0) with
  accessFlags := 49
  interfaces := #[2, 3, 4, 5, 6]
  cf := some (fileOf pool7 10 #[.nestMembers #[1103]] #[{ accessFlags := 1, nameIndex := 5, descriptorIndex := 6, attributes := #[] }, { accessFlags := 1, nameIndex := 5, descriptorIndex := 1010, attributes := #[] }, { accessFlags := 1, nameIndex := 507, descriptorIndex := 334, attributes := #[] }, { accessFlags := 1, nameIndex := 543, descriptorIndex := 573, attributes := #[] }, { accessFlags := 2, nameIndex := 5, descriptorIndex := 29, attributes := #[] }, { accessFlags := 0, nameIndex := 17, descriptorIndex := 337, attributes := #[] }] 49 2 #[1106, 1108, 575, 1110, 1112] #[{ accessFlags := 18, nameIndex := 13, descriptorIndex := 14, attributes := #[] }, { accessFlags := 18, nameIndex := 17, descriptorIndex := 18, attributes := #[] }, { accessFlags := 2, nameIndex := 21, descriptorIndex := 22, attributes := #[] }, { accessFlags := 2, nameIndex := 25, descriptorIndex := 26, attributes := #[] }, { accessFlags := 26, nameIndex := 1116, descriptorIndex := 1117, attributes := #[] }, { accessFlags := 24, nameIndex := 40, descriptorIndex := 26, attributes := #[] }, { accessFlags := 26, nameIndex := 1101, descriptorIndex := 1102, attributes := #[] }, { accessFlags := 26, nameIndex := 1121, descriptorIndex := 1122, attributes := #[] }, { accessFlags := 25, nameIndex := 599, descriptorIndex := 600, attributes := #[] }, { accessFlags := 24, nameIndex := 1125, descriptorIndex := 18, attributes := #[] }, { accessFlags := 24, nameIndex := 1127, descriptorIndex := 18, attributes := #[] }])
  fields := #[{ name := "value", type := (.array .byte), accessFlags := 18, slot := 0, constantValue := 0 }, { name := "coder", type := .byte, accessFlags := 18, slot := 1, constantValue := 0 }, { name := "hash", type := .int, accessFlags := 2, slot := 2, constantValue := 0 }, { name := "hashIsZero", type := .boolean, accessFlags := 2, slot := 3, constantValue := 0 }, { name := "serialVersionUID", type := .long, accessFlags := 26, slot := 0, constantValue := 0 }, { name := "COMPACT_STRINGS", type := .boolean, accessFlags := 24, slot := 1, constantValue := 0 }, { name := "serialPersistentFields", type := (.array (.object "java/io/ObjectStreamField")), accessFlags := 26, slot := 2, constantValue := 0 }, { name := "REPL", type := .char, accessFlags := 26, slot := 3, constantValue := 0 }, { name := "CASE_INSENSITIVE_ORDER", type := (.object "java/util/Comparator"), accessFlags := 25, slot := 4, constantValue := 0 }, { name := "LATIN1", type := .byte, accessFlags := 24, slot := 5, constantValue := 0 }, { name := "UTF16", type := .byte, accessFlags := 24, slot := 6, constantValue := 0 }]
  methods := #[k7m0, k7m1, k7m2, k7m3, k7m4, k7m5]
  instanceTypes := #[(.array .byte), .byte, .int, .boolean]
  staticTypes := #[.long, .boolean, (.array (.object "java/io/ObjectStreamField")), .char, (.object "java/util/Comparator"), .byte, .byte]
  resolved := Array.replicate 1451 none
  statics := some 0 }

def pool8 : Array CpInfo := pool [(6, .class_ 8), (1, u "java/lang/Object"), (0, u "<init>"), (0, u "()V"), (1, .class_ 14), (1, u "java/lang/StringUTF16"), (31, u "$assertionsDisabled"), (0, u "Z"), (13, u "HI_BYTE_SHIFT"), (0, u "I"), (2, u "LO_BYTE_SHIFT"), (49, .methodref 12 116), (0, .nameAndType 117 118), (0, u "compress"), (0, u "([CI[BII)I"), (3, u "([CII)[B"), (138, u "coderFromArrayLen"), (0, u "([BI)B"), (106, .class_ 371), (1, u "java/lang/StringUTF16$LinesSpliterator"), (58, u "MAX_LENGTH"), (196, .class_ 628), (0, u "java/lang/StringUTF16$CodePointsSpliterator"), (0, .class_ 630), (0, u "java/lang/StringUTF16$CharsSpliterator")] 4

def k8m0 : Method := { name := "<init>", desc := "()V", sig := { parameters := [], returnType := none }, accessFlags := 0, code := none }
def k8c1 : Code := { maxStack := 2, maxLocals := 2, code := jdk_52_method_15_code, exceptionTable := #[], attributes := #[] }
def k8m1 : Method := { name := "coderFromArrayLen", desc := "([BI)B", sig := { parameters := [(.array .byte), .int], returnType := some .byte }, accessFlags := 8, code := some k8c1 }
def k8c2 : Code := { maxStack := 5, maxLocals := 6, code := jdk_52_method_16_code, exceptionTable := #[], attributes := #[] }
def k8m2 : Method := { name := "compress", desc := "([CII)[B", sig := { parameters := [(.array .char), .int, .int], returnType := some (.array .byte) }, accessFlags := 9, code := some k8c2 }
def k8c3 : Code := { maxStack := 3, maxLocals := 7, code := jdk_52_method_21_code, exceptionTable := #[], attributes := #[] }
def k8m3 : Method := { name := "compress", desc := "([CI[BII)I", sig := { parameters := [(.array .char), .int, (.array .byte), .int, .int], returnType := some .int }, accessFlags := 9, code := some k8c3 }
/-- java/lang/StringUTF16 -/
def k8 : Class := { plain "java/lang/StringUTF16" (some 0) with
  accessFlags := 48
  interfaces := #[]
  cf := some (fileOf pool8 12 #[.nestMembers #[627, 629, 369]] #[{ accessFlags := 0, nameIndex := 9, descriptorIndex := 10, attributes := #[] }, { accessFlags := 8, nameIndex := 261, descriptorIndex := 262, attributes := #[] }, { accessFlags := 9, nameIndex := 117, descriptorIndex := 122, attributes := #[] }, { accessFlags := 9, nameIndex := 117, descriptorIndex := 118, attributes := #[] }] 48 6 #[] #[{ accessFlags := 26, nameIndex := 61, descriptorIndex := 62, attributes := #[] }, { accessFlags := 26, nameIndex := 65, descriptorIndex := 62, attributes := #[] }, { accessFlags := 24, nameIndex := 430, descriptorIndex := 62, attributes := #[] }, { accessFlags := 4120, nameIndex := 46, descriptorIndex := 47, attributes := #[] }])
  fields := #[{ name := "HI_BYTE_SHIFT", type := .int, accessFlags := 26, slot := 0, constantValue := 0 }, { name := "LO_BYTE_SHIFT", type := .int, accessFlags := 26, slot := 1, constantValue := 0 }, { name := "MAX_LENGTH", type := .int, accessFlags := 24, slot := 2, constantValue := 0 }, { name := "$assertionsDisabled", type := .boolean, accessFlags := 4120, slot := 3, constantValue := 0 }]
  methods := #[k8m0, k8m1, k8m2, k8m3]
  instanceTypes := #[]
  staticTypes := #[.int, .int, .int, .boolean]
  resolved := Array.replicate 635 none
  statics := none }

def pool9 : Array CpInfo := pool [(1, .methodref 2 3), (0, .class_ 4), (0, .nameAndType 5 6), (0, u "java/lang/Object"), (0, u "<init>"), (0, u "()V"), (0, .class_ 8), (0, u "java/lang/Record")] 13

def k9c0 : Code := { maxStack := 1, maxLocals := 1, code := jdk_30_method_1_code, exceptionTable := #[], attributes := #[] }
def k9m0 : Method := { name := "<init>", desc := "()V", sig := { parameters := [], returnType := none }, accessFlags := 4, code := some k9c0 }
/-- java/lang/Record -/
def k9 : Class := { plain "java/lang/Record" (some 0) with
  accessFlags := 1057
  interfaces := #[]
  cf := some (fileOf pool9 7 #[] #[{ accessFlags := 4, nameIndex := 5, descriptorIndex := 6, attributes := #[] }] 1057 2 #[] #[])
  fields := #[]
  methods := #[k9m0]
  instanceTypes := #[]
  staticTypes := #[]
  resolved := Array.replicate 22 none
  statics := none }

def pool10 : Array CpInfo := pool [(1, .methodref 2 3), (0, .class_ 4), (0, .nameAndType 5 6), (0, u "java/lang/Record"), (0, u "<init>"), (0, u "()V"), (0, .fieldref 8 9), (0, .class_ 10), (0, .nameAndType 11 12), (0, u "com/example/rollcall/rollcall/Event"), (0, u "scope"), (0, u "Ljava/lang/String;"), (0, .fieldref 8 14), (0, .nameAndType 15 12), (0, u "instrument"), (0, .fieldref 8 17), (0, .nameAndType 18 19), (0, u "kind"), (0, u "Lcom/example/rollcall/rollcall/Event$Kind;"), (0, .fieldref 8 21), (0, .nameAndType 22 23), (0, u "standing"), (0, u "Lcom/example/rollcall/rollcall/Standing;"), (0, .fieldref 8 25), (0, .nameAndType 26 27), (0, u "at"), (0, u "Ljava/lang/Long;"), (0, .fieldref 8 29), (0, .nameAndType 30 31), (0, u "changes"), (0, u "Ljava/util/SortedMap;"), (0, .methodref 33 34), (0, .class_ 35), (0, .nameAndType 36 37), (0, u "java/util/Collections"), (0, u "emptySortedMap"), (0, u "()Ljava/util/SortedMap;"), (0, .methodref 8 39), (0, .nameAndType 5 40), (0, u "(Ljava/lang/String;Ljava/lang/String;Lcom/example/rollcall/rollcall/Event$Kind;Lcom/example/rollcall/rollcall/Standing;Ljava/lang/Long;Ljava/util/SortedMap;)V"), (0, .fieldref 42 43), (0, .class_ 44), (0, .nameAndType 45 19), (0, u "com/example/rollcall/rollcall/Event$Kind"), (0, u "GAP"), (0, .methodref 8 47), (0, .nameAndType 5 48), (0, u "(Ljava/lang/String;Ljava/lang/String;Lcom/example/rollcall/rollcall/Event$Kind;Lcom/example/rollcall/rollcall/Standing;Ljava/lang/Long;)V"), (35, u "ORDER"), (0, u "Ljava/util/Comparator;"), (7, u "gap"), (0, u "(Ljava/lang/String;)Lcom/example/rollcall/rollcall/Event;"), (0, u "()Ljava/lang/String;"), (2, u "()Lcom/example/rollcall/rollcall/Event$Kind;"), (0, u "()Lcom/example/rollcall/rollcall/Standing;"), (0, u "()Ljava/lang/Long;"), (5, .class_ 107), (0, u "com/example/rollcall/rollcall/Event$Change")] 43

def k10c0 : Code := { maxStack := 7, maxLocals := 6, code := prog_4_method_1_code, exceptionTable := #[], attributes := #[] }
def k10m0 : Method := { name := "<init>", desc := "(Ljava/lang/String;Ljava/lang/String;Lcom/example/rollcall/rollcall/Event$Kind;Lcom/example/rollcall/rollcall/Standing;Ljava/lang/Long;)V", sig := { parameters := [(.object "java/lang/String"), (.object "java/lang/String"), (.object "com/example/rollcall/rollcall/Event$Kind"), (.object "com/example/rollcall/rollcall/Standing"), (.object "java/lang/Long")], returnType := none }, accessFlags := 0, code := some k10c0 }
def k10c1 : Code := { maxStack := 2, maxLocals := 7, code := prog_4_method_2_code, exceptionTable := #[], attributes := #[] }
def k10m1 : Method := { name := "<init>", desc := "(Ljava/lang/String;Ljava/lang/String;Lcom/example/rollcall/rollcall/Event$Kind;Lcom/example/rollcall/rollcall/Standing;Ljava/lang/Long;Ljava/util/SortedMap;)V", sig := { parameters := [(.object "java/lang/String"), (.object "java/lang/String"), (.object "com/example/rollcall/rollcall/Event$Kind"), (.object "com/example/rollcall/rollcall/Standing"), (.object "java/lang/Long"), (.object "java/util/SortedMap")], returnType := none }, accessFlags := 0, code := some k10c1 }
def k10c2 : Code := { maxStack := 7, maxLocals := 1, code := prog_4_method_3_code, exceptionTable := #[], attributes := #[] }
def k10m2 : Method := { name := "gap", desc := "(Ljava/lang/String;)Lcom/example/rollcall/rollcall/Event;", sig := { parameters := [(.object "java/lang/String")], returnType := some (.object "com/example/rollcall/rollcall/Event") }, accessFlags := 8, code := some k10c2 }
def k10c3 : Code := { maxStack := 1, maxLocals := 1, code := prog_4_method_7_code, exceptionTable := #[], attributes := #[] }
def k10m3 : Method := { name := "scope", desc := "()Ljava/lang/String;", sig := { parameters := [], returnType := some (.object "java/lang/String") }, accessFlags := 1, code := some k10c3 }
def k10c4 : Code := { maxStack := 1, maxLocals := 1, code := prog_4_method_8_code, exceptionTable := #[], attributes := #[] }
def k10m4 : Method := { name := "instrument", desc := "()Ljava/lang/String;", sig := { parameters := [], returnType := some (.object "java/lang/String") }, accessFlags := 1, code := some k10c4 }
def k10c5 : Code := { maxStack := 1, maxLocals := 1, code := prog_4_method_9_code, exceptionTable := #[], attributes := #[] }
def k10m5 : Method := { name := "kind", desc := "()Lcom/example/rollcall/rollcall/Event$Kind;", sig := { parameters := [], returnType := some (.object "com/example/rollcall/rollcall/Event$Kind") }, accessFlags := 1, code := some k10c5 }
def k10c6 : Code := { maxStack := 1, maxLocals := 1, code := prog_4_method_10_code, exceptionTable := #[], attributes := #[] }
def k10m6 : Method := { name := "standing", desc := "()Lcom/example/rollcall/rollcall/Standing;", sig := { parameters := [], returnType := some (.object "com/example/rollcall/rollcall/Standing") }, accessFlags := 1, code := some k10c6 }
def k10c7 : Code := { maxStack := 1, maxLocals := 1, code := prog_4_method_11_code, exceptionTable := #[], attributes := #[] }
def k10m7 : Method := { name := "at", desc := "()Ljava/lang/Long;", sig := { parameters := [], returnType := some (.object "java/lang/Long") }, accessFlags := 1, code := some k10c7 }
/-- com/example/rollcall/rollcall/Event -/
def k10 : Class := { plain "com/example/rollcall/rollcall/Event" (some 9) with
  accessFlags := 48
  interfaces := #[]
  cf := some (fileOf pool10 8 #[.nestMembers #[42, 106]] #[{ accessFlags := 0, nameIndex := 5, descriptorIndex := 48, attributes := #[] }, { accessFlags := 0, nameIndex := 5, descriptorIndex := 40, attributes := #[] }, { accessFlags := 8, nameIndex := 93, descriptorIndex := 94, attributes := #[] }, { accessFlags := 1, nameIndex := 11, descriptorIndex := 95, attributes := #[] }, { accessFlags := 1, nameIndex := 15, descriptorIndex := 95, attributes := #[] }, { accessFlags := 1, nameIndex := 18, descriptorIndex := 98, attributes := #[] }, { accessFlags := 1, nameIndex := 22, descriptorIndex := 99, attributes := #[] }, { accessFlags := 1, nameIndex := 26, descriptorIndex := 100, attributes := #[] }] 48 2 #[] #[{ accessFlags := 18, nameIndex := 11, descriptorIndex := 12, attributes := #[] }, { accessFlags := 18, nameIndex := 15, descriptorIndex := 12, attributes := #[] }, { accessFlags := 18, nameIndex := 18, descriptorIndex := 19, attributes := #[] }, { accessFlags := 18, nameIndex := 22, descriptorIndex := 23, attributes := #[] }, { accessFlags := 18, nameIndex := 26, descriptorIndex := 27, attributes := #[] }, { accessFlags := 18, nameIndex := 30, descriptorIndex := 31, attributes := #[] }, { accessFlags := 24, nameIndex := 84, descriptorIndex := 85, attributes := #[] }])
  fields := #[{ name := "scope", type := (.object "java/lang/String"), accessFlags := 18, slot := 0, constantValue := 0 }, { name := "instrument", type := (.object "java/lang/String"), accessFlags := 18, slot := 1, constantValue := 0 }, { name := "kind", type := (.object "com/example/rollcall/rollcall/Event$Kind"), accessFlags := 18, slot := 2, constantValue := 0 }, { name := "standing", type := (.object "com/example/rollcall/rollcall/Standing"), accessFlags := 18, slot := 3, constantValue := 0 }, { name := "at", type := (.object "java/lang/Long"), accessFlags := 18, slot := 4, constantValue := 0 }, { name := "changes", type := (.object "java/util/SortedMap"), accessFlags := 18, slot := 5, constantValue := 0 }, { name := "ORDER", type := (.object "java/util/Comparator"), accessFlags := 24, slot := 0, constantValue := 0 }]
  methods := #[k10m0, k10m1, k10m2, k10m3, k10m4, k10m5, k10m6, k10m7]
  instanceTypes := #[(.object "java/lang/String"), (.object "java/lang/String"), (.object "com/example/rollcall/rollcall/Event$Kind"), (.object "com/example/rollcall/rollcall/Standing"), (.object "java/lang/Long"), (.object "java/util/SortedMap")]
  staticTypes := #[(.object "java/util/Comparator")]
  resolved := Array.replicate 151 none
  statics := none }

def pool11 : Array CpInfo := pool [(2, .class_ 4), (1, u "java/lang/Enum"), (0, u "name"), (0, u "Ljava/lang/String;"), (2, u "ordinal"), (0, u "I"), (1, .class_ 14), (1, u "java/lang/Object"), (4, u "hash"), (86, .class_ 108), (1, u "java/lang/Enum$EnumDesc"), (2, .class_ 112), (0, u "java/lang/constant/Constable"), (0, .class_ 114), (0, u "java/lang/Comparable"), (0, .class_ 116), (0, u "java/io/Serializable")] 87

/-- java/lang/Enum -/
def k11 : Class := { plain "java/lang/Enum" (some 0) with
  accessFlags := 1057
  interfaces := #[5, 3, 2]
  cf := some (fileOf pool11 2 #[.nestMembers #[106]] #[] 1057 12 #[111, 113, 115] #[{ accessFlags := 18, nameIndex := 5, descriptorIndex := 6, attributes := #[] }, { accessFlags := 18, nameIndex := 9, descriptorIndex := 10, attributes := #[] }, { accessFlags := 2, nameIndex := 19, descriptorIndex := 10, attributes := #[] }])
  fields := #[{ name := "name", type := (.object "java/lang/String"), accessFlags := 18, slot := 0, constantValue := 0 }, { name := "ordinal", type := .int, accessFlags := 18, slot := 1, constantValue := 0 }, { name := "hash", type := .int, accessFlags := 2, slot := 2, constantValue := 0 }]
  methods := #[]
  instanceTypes := #[(.object "java/lang/String"), .int, .int]
  staticTypes := #[]
  resolved := Array.replicate 204 none
  statics := none }

def pool12 : Array CpInfo := pool [(1, .class_ 2), (0, u "com/example/rollcall/rollcall/Event$Kind"), (2, u "LISTED"), (0, u "Lcom/example/rollcall/rollcall/Event$Kind;"), (2, u "STATUS"), (2, u "CHANGED"), (2, u "REMOVED"), (2, u "GAP"), (2, u "$VALUES"), (0, u "[Lcom/example/rollcall/rollcall/Event$Kind;"), (6, .class_ 31), (1, u "java/lang/Enum"), (45, .class_ 78), (0, u "com/example/rollcall/rollcall/Event")] 2

/-- com/example/rollcall/rollcall/Event$Kind -/
def k12 : Class := { plain "com/example/rollcall/rollcall/Event$Kind" (some 11) with
  accessFlags := 16432
  interfaces := #[]
  cf := some (fileOf pool12 1 #[.nestHost 77] #[] 16432 29 #[] #[{ accessFlags := 16409, nameIndex := 5, descriptorIndex := 6, attributes := #[] }, { accessFlags := 16409, nameIndex := 9, descriptorIndex := 6, attributes := #[] }, { accessFlags := 16409, nameIndex := 12, descriptorIndex := 6, attributes := #[] }, { accessFlags := 16409, nameIndex := 15, descriptorIndex := 6, attributes := #[] }, { accessFlags := 16409, nameIndex := 18, descriptorIndex := 6, attributes := #[] }, { accessFlags := 4122, nameIndex := 21, descriptorIndex := 22, attributes := #[] }])
  fields := #[{ name := "LISTED", type := (.object "com/example/rollcall/rollcall/Event$Kind"), accessFlags := 16409, slot := 0, constantValue := 0 }, { name := "STATUS", type := (.object "com/example/rollcall/rollcall/Event$Kind"), accessFlags := 16409, slot := 1, constantValue := 0 }, { name := "CHANGED", type := (.object "com/example/rollcall/rollcall/Event$Kind"), accessFlags := 16409, slot := 2, constantValue := 0 }, { name := "REMOVED", type := (.object "com/example/rollcall/rollcall/Event$Kind"), accessFlags := 16409, slot := 3, constantValue := 0 }, { name := "GAP", type := (.object "com/example/rollcall/rollcall/Event$Kind"), accessFlags := 16409, slot := 4, constantValue := 0 }, { name := "$VALUES", type := (.array (.object "com/example/rollcall/rollcall/Event$Kind")), accessFlags := 4122, slot := 5, constantValue := 0 }]
  methods := #[]
  instanceTypes := #[(.object "java/lang/String"), .int, .int]
  staticTypes := #[(.object "com/example/rollcall/rollcall/Event$Kind"), (.object "com/example/rollcall/rollcall/Event$Kind"), (.object "com/example/rollcall/rollcall/Event$Kind"), (.object "com/example/rollcall/rollcall/Event$Kind"), (.object "com/example/rollcall/rollcall/Event$Kind"), (.array (.object "com/example/rollcall/rollcall/Event$Kind"))]
  resolved := Array.replicate 81 none
  statics := some 1 }

def pool13 : Array CpInfo := pool [(2, .class_ 4), (1, u "java/lang/Object"), (0, u "<init>"), (0, u "()V"), (12, .class_ 20), (0, u "java/util/Collections"), (63, u "r"), (0, u "Ljava/util/Random;"), (80, .class_ 167), (0, u "java/util/Collections$UnmodifiableCollection"), (6, .class_ 175), (0, u "java/util/Collections$UnmodifiableSequencedCollection"), (6, .class_ 183), (0, u "java/util/Collections$UnmodifiableSet"), (6, .class_ 191), (0, u "java/util/Collections$UnmodifiableSequencedSet"), (6, .class_ 199), (0, u "java/util/Collections$UnmodifiableSortedSet"), (6, .class_ 207), (0, u "java/util/Collections$UnmodifiableNavigableSet"), (4, .class_ 213), (0, u "java/util/Collections$UnmodifiableList"), (1, .class_ 216), (0, u "java/util/Collections$UnmodifiableRandomAccessList"), (6, .class_ 224), (0, u "java/util/Collections$UnmodifiableMap"), (6, .class_ 232), (0, u "java/util/Collections$UnmodifiableSequencedMap"), (4, .class_ 238), (0, u "java/util/Collections$UnmodifiableSortedMap"), (6, .class_ 246), (0, u "java/util/Collections$UnmodifiableNavigableMap"), (3, .class_ 251), (0, u "java/util/Collections$SynchronizedCollection"), (4, .class_ 257), (0, u "java/util/Collections$SynchronizedSet"), (4, .class_ 263), (0, u "java/util/Collections$SynchronizedSortedSet"), (1, .class_ 266), (0, u "java/util/Collections$SynchronizedNavigableSet"), (1, .class_ 269), (0, u "java/util/Collections$SynchronizedRandomAccessList"), (1, .class_ 272), (0, u "java/util/Collections$SynchronizedList"), (5, .class_ 279), (0, u "java/util/Collections$SynchronizedMap"), (1, .class_ 282), (0, u "java/util/Collections$SynchronizedSortedMap"), (1, .class_ 285), (0, u "java/util/Collections$SynchronizedNavigableMap"), (1, .class_ 288), (0, u "java/util/Collections$CheckedCollection"), (11, .class_ 301), (0, u "java/util/Collections$CheckedQueue"), (3, .class_ 306), (0, u "java/util/Collections$CheckedSet"), (3, .class_ 311), (0, u "java/util/Collections$CheckedSortedSet"), (3, .class_ 316), (0, u "java/util/Collections$CheckedNavigableSet"), (3, .class_ 321), (0, u "java/util/Collections$CheckedRandomAccessList"), (3, .class_ 326), (0, u "java/util/Collections$CheckedList"), (1, .class_ 329), (0, u "java/util/Collections$CheckedMap"), (3, .class_ 334), (0, u "java/util/Collections$CheckedSortedMap"), (3, .class_ 339), (0, u "java/util/Collections$CheckedNavigableMap"), (4, .class_ 346), (1, u "java/util/Collections$EmptyIterator"), (3, .class_ 352), (1, u "java/util/Collections$EmptyListIterator"), (2, .class_ 357), (1, u "java/util/Collections$EmptyEnumeration"), (4, u "EMPTY_SET"), (0, u "Ljava/util/Set;"), (6, u "EMPTY_LIST"), (0, u "Ljava/util/List;"), (2, u "EMPTY_MAP"), (0, u "Ljava/util/Map;"), (0, .fieldref 245 377), (0, .nameAndType 378 379), (0, u "EMPTY_NAVIGABLE_MAP"), (0, u "Ljava/util/Collections$UnmodifiableNavigableMap$EmptyNavigableMap;"), (0, .class_ 381), (0, u "java/util/Collections$SingletonSet"), (2, .class_ 385), (0, u "java/util/Collections$1"), (1, .class_ 388), (0, u "java/util/Collections$2"), (1, .class_ 391), (0, u "java/util/Collections$SingletonList"), (1, .class_ 394), (0, u "java/util/Collections$SingletonMap"), (22, .class_ 418), (0, u "java/util/Collections$CopiesList"), (4, .class_ 425), (1, u "java/util/Collections$ReverseComparator"), (8, .class_ 435), (0, u "java/util/Collections$ReverseComparator2"), (6, .class_ 443), (0, u "java/util/Collections$3"), (25, .class_ 470), (0, u "java/util/Collections$SetFromMap"), (2, .class_ 474), (0, u "java/util/Collections$SequencedSetFromMap"), (3, .class_ 479), (0, u "java/util/Collections$AsLIFOQueue"), (11, .class_ 492), (0, u "java/util/Collections$EmptySet"), (1, .class_ 495), (0, u "java/util/Collections$EmptyList"), (1, .class_ 498), (0, u "java/util/Collections$EmptyMap"), (1, u "BINARYSEARCH_THRESHOLD"), (0, u "I"), (2, u "REVERSE_THRESHOLD"), (1, u "SHUFFLE_THRESHOLD"), (1, u "FILL_THRESHOLD"), (1, u "ROTATE_THRESHOLD"), (1, u "COPY_THRESHOLD"), (1, u "REPLACEALL_THRESHOLD"), (1, u "INDEXOFSUBLIST_THRESHOLD"), (246, u "emptySortedMap"), (0, u "()Ljava/util/SortedMap;"), (85, .class_ 851), (0, u "java/util/Collections$CheckedMap$CheckedEntrySet"), (0, .class_ 853), (0, u "java/util/Collections$CheckedMap$CheckedEntrySet$CheckedEntry"), (0, .class_ 855), (0, u "java/util/Collections$CheckedMap$CheckedEntrySet$1"), (0, .class_ 857), (0, u "java/util/Collections$CheckedList$1"), (0, .class_ 859), (0, u "java/util/Collections$CheckedCollection$1"), (0, .class_ 861), (0, u "java/util/Collections$UnmodifiableNavigableMap$EmptyNavigableMap"), (0, .class_ 863), (0, u "java/util/Collections$UnmodifiableMap$UnmodifiableEntrySet"), (0, .class_ 865), (0, u "java/util/Collections$UnmodifiableMap$UnmodifiableEntrySet$UnmodifiableEntry"), (0, .class_ 867), (0, u "java/util/Collections$UnmodifiableMap$UnmodifiableEntrySet$UnmodifiableEntrySetSpliterator"), (0, .class_ 869), (0, u "java/util/Collections$UnmodifiableMap$UnmodifiableEntrySet$1"), (0, .class_ 871), (0, u "java/util/Collections$UnmodifiableList$1"), (0, .class_ 873), (0, u "java/util/Collections$UnmodifiableNavigableSet$EmptyNavigableSet"), (0, .class_ 875), (0, u "java/util/Collections$UnmodifiableCollection$1")] 57

def k13m0 : Method := { name := "<init>", desc := "()V", sig := { parameters := [], returnType := none }, accessFlags := 2, code := none }
def k13c1 : Code := { maxStack := 1, maxLocals := 0, code := jdk_79_method_69_code, exceptionTable := #[], attributes := #[] }
def k13m1 : Method := { name := "emptySortedMap", desc := "()Ljava/util/SortedMap;", sig := { parameters := [], returnType := some (.object "java/util/SortedMap") }, accessFlags := 25, code := some k13c1 }
/-- java/util/Collections -/
def k13 : Class := { plain "java/util/Collections" (some 0) with
  accessFlags := 33
  interfaces := #[]
  cf := some (fileOf pool13 19 #[.nestMembers #[478, 473, 469, 434, 423, 417, 393, 390, 380, 497, 494, 491, 355, 350, 344, 338, 333, 328, 850, 852, 854, 320, 325, 856, 315, 310, 305, 300, 287, 858, 284, 281, 278, 268, 271, 265, 262, 256, 250, 245, 860, 237, 231, 223, 862, 864, 866, 868, 215, 212, 870, 206, 872, 198, 190, 182, 174, 166, 874, 442, 387, 384]] #[{ accessFlags := 2, nameIndex := 5, descriptorIndex := 6, attributes := #[] }, { accessFlags := 25, nameIndex := 763, descriptorIndex := 764, attributes := #[] }] 33 2 #[] #[{ accessFlags := 26, nameIndex := 500, descriptorIndex := 501, attributes := #[] }, { accessFlags := 26, nameIndex := 504, descriptorIndex := 501, attributes := #[] }, { accessFlags := 26, nameIndex := 506, descriptorIndex := 501, attributes := #[] }, { accessFlags := 26, nameIndex := 508, descriptorIndex := 501, attributes := #[] }, { accessFlags := 26, nameIndex := 510, descriptorIndex := 501, attributes := #[] }, { accessFlags := 26, nameIndex := 512, descriptorIndex := 501, attributes := #[] }, { accessFlags := 26, nameIndex := 514, descriptorIndex := 501, attributes := #[] }, { accessFlags := 26, nameIndex := 516, descriptorIndex := 501, attributes := #[] }, { accessFlags := 10, nameIndex := 84, descriptorIndex := 85, attributes := #[] }, { accessFlags := 25, nameIndex := 362, descriptorIndex := 363, attributes := #[] }, { accessFlags := 25, nameIndex := 370, descriptorIndex := 371, attributes := #[] }, { accessFlags := 25, nameIndex := 374, descriptorIndex := 375, attributes := #[] }])
  fields := #[{ name := "BINARYSEARCH_THRESHOLD", type := .int, accessFlags := 26, slot := 0, constantValue := 0 }, { name := "REVERSE_THRESHOLD", type := .int, accessFlags := 26, slot := 1, constantValue := 0 }, { name := "SHUFFLE_THRESHOLD", type := .int, accessFlags := 26, slot := 2, constantValue := 0 }, { name := "FILL_THRESHOLD", type := .int, accessFlags := 26, slot := 3, constantValue := 0 }, { name := "ROTATE_THRESHOLD", type := .int, accessFlags := 26, slot := 4, constantValue := 0 }, { name := "COPY_THRESHOLD", type := .int, accessFlags := 26, slot := 5, constantValue := 0 }, { name := "REPLACEALL_THRESHOLD", type := .int, accessFlags := 26, slot := 6, constantValue := 0 }, { name := "INDEXOFSUBLIST_THRESHOLD", type := .int, accessFlags := 26, slot := 7, constantValue := 0 }, { name := "r", type := (.object "java/util/Random"), accessFlags := 10, slot := 8, constantValue := 0 }, { name := "EMPTY_SET", type := (.object "java/util/Set"), accessFlags := 25, slot := 9, constantValue := 0 }, { name := "EMPTY_LIST", type := (.object "java/util/List"), accessFlags := 25, slot := 10, constantValue := 0 }, { name := "EMPTY_MAP", type := (.object "java/util/Map"), accessFlags := 25, slot := 11, constantValue := 0 }]
  methods := #[k13m0, k13m1]
  instanceTypes := #[]
  staticTypes := #[.int, .int, .int, .int, .int, .int, .int, .int, (.object "java/util/Random"), (.object "java/util/Set"), (.object "java/util/List"), (.object "java/util/Map")]
  resolved := Array.replicate 933 none
  statics := none }

def pool14 : Array CpInfo := pool [(2, .class_ 4), (1, u "java/util/Map"), (31, .class_ 37), (0, u "java/util/Map$Entry"), (55, .class_ 94), (0, u "java/lang/Object")] 168

/-- java/util/Map -/
def k14 : Class := { plain "java/util/Map" (some 0) with
  accessFlags := 1537
  interfaces := #[]
  cf := some (fileOf pool14 2 #[.nestMembers #[36]] #[] 1537 93 #[] #[])
  fields := #[]
  methods := #[]
  instanceTypes := #[]
  staticTypes := #[]
  resolved := Array.replicate 263 none
  statics := none }

def pool15 : Array CpInfo := pool [(2, .class_ 4), (1, u "java/lang/Object"), (6, .class_ 13), (1, u "java/util/Collections$UnmodifiableMap"), (0, u "m"), (0, u "Ljava/util/Map;"), (1, .class_ 19), (1, u "java/util/Map"), (22, u "keySet"), (0, u "Ljava/util/Set;"), (4, .class_ 50), (1, u "java/util/Collections"), (4, u "entrySet"), (9, u "values"), (0, u "Ljava/util/Collection;"), (25, .class_ 93), (0, u "java/io/Serializable"), (0, u "serialVersionUID"), (0, u "J")] 79

/-- java/util/Collections$UnmodifiableMap -/
def k15 : Class := { plain "java/util/Collections$UnmodifiableMap" (some 0) with
  accessFlags := 32
  interfaces := #[14, 2]
  cf := some (fileOf pool15 11 #[.nestHost 48] #[] 32 2 #[17, 92] #[{ accessFlags := 26, nameIndex := 94, descriptorIndex := 95, attributes := #[] }, { accessFlags := 16, nameIndex := 14, descriptorIndex := 15, attributes := #[] }, { accessFlags := 130, nameIndex := 42, descriptorIndex := 43, attributes := #[] }, { accessFlags := 130, nameIndex := 55, descriptorIndex := 43, attributes := #[] }, { accessFlags := 130, nameIndex := 65, descriptorIndex := 66, attributes := #[] }])
  fields := #[{ name := "serialVersionUID", type := .long, accessFlags := 26, slot := 0, constantValue := 0 }, { name := "m", type := (.object "java/util/Map"), accessFlags := 16, slot := 0, constantValue := 0 }, { name := "keySet", type := (.object "java/util/Set"), accessFlags := 130, slot := 1, constantValue := 0 }, { name := "entrySet", type := (.object "java/util/Set"), accessFlags := 130, slot := 2, constantValue := 0 }, { name := "values", type := (.object "java/util/Collection"), accessFlags := 130, slot := 3, constantValue := 0 }]
  methods := #[]
  instanceTypes := #[(.object "java/util/Map"), (.object "java/util/Set"), (.object "java/util/Set"), (.object "java/util/Collection")]
  staticTypes := #[.long]
  resolved := Array.replicate 175 none
  statics := none }

def pool16 : Array CpInfo := pool [(2, .class_ 4), (1, u "java/util/SequencedMap"), (38, .class_ 44), (0, u "java/util/SequencedMap$1SeqKeySet"), (3, .class_ 49), (0, u "java/util/SequencedMap$1SeqValues"), (1, .class_ 52), (0, u "java/util/SequencedMap$1SeqEntrySet"), (1, .class_ 55), (0, u "java/lang/Object"), (0, .class_ 57), (0, u "java/util/Map")] 48

/-- java/util/SequencedMap -/
def k16 : Class := { plain "java/util/SequencedMap" (some 0) with
  accessFlags := 1537
  interfaces := #[14]
  cf := some (fileOf pool16 2 #[.nestMembers #[51, 48, 43]] #[] 1537 54 #[56] #[])
  fields := #[]
  methods := #[]
  instanceTypes := #[]
  staticTypes := #[]
  resolved := Array.replicate 106 none
  statics := none }

def pool17 : Array CpInfo := pool [(14, .class_ 16), (1, u "java/util/SortedMap"), (2, .class_ 20), (0, u "java/lang/Object"), (0, .class_ 22), (0, u "java/util/SequencedMap")] 50

/-- java/util/SortedMap -/
def k17 : Class := { plain "java/util/SortedMap" (some 0) with
  accessFlags := 1537
  interfaces := #[16]
  cf := some (fileOf pool17 14 #[] #[] 1537 19 #[21] #[])
  fields := #[]
  methods := #[]
  instanceTypes := #[]
  staticTypes := #[]
  resolved := Array.replicate 73 none
  statics := none }

def pool18 : Array CpInfo := pool [(2, .class_ 4), (1, u "java/util/Collections$UnmodifiableMap"), (3, .class_ 10), (1, u "java/util/Collections$UnmodifiableSortedMap"), (0, u "sm"), (0, u "Ljava/util/SortedMap;"), (1, .class_ 16), (1, u "java/util/SortedMap"), (23, .class_ 41), (0, u "java/io/Serializable"), (0, u "serialVersionUID"), (0, u "J"), (26, .class_ 71), (0, u "java/util/Collections")] 3

/-- java/util/Collections$UnmodifiableSortedMap -/
def k18 : Class := { plain "java/util/Collections$UnmodifiableSortedMap" (some 15) with
  accessFlags := 32
  interfaces := #[17, 2]
  cf := some (fileOf pool18 8 #[.nestHost 70] #[] 32 2 #[14, 40] #[{ accessFlags := 26, nameIndex := 42, descriptorIndex := 43, attributes := #[] }, { accessFlags := 18, nameIndex := 11, descriptorIndex := 12, attributes := #[] }])
  fields := #[{ name := "serialVersionUID", type := .long, accessFlags := 26, slot := 0, constantValue := 0 }, { name := "sm", type := (.object "java/util/SortedMap"), accessFlags := 18, slot := 4, constantValue := 0 }]
  methods := #[]
  instanceTypes := #[(.object "java/util/Map"), (.object "java/util/Set"), (.object "java/util/Set"), (.object "java/util/Collection"), (.object "java/util/SortedMap")]
  staticTypes := #[.long]
  resolved := Array.replicate 75 none
  statics := none }

def pool19 : Array CpInfo := pool [(2, .class_ 4), (1, u "java/util/NavigableMap"), (5, .class_ 11), (0, u "java/lang/Object"), (0, .class_ 13), (0, u "java/util/SortedMap")] 53

/-- java/util/NavigableMap -/
def k19 : Class := { plain "java/util/NavigableMap" (some 0) with
  accessFlags := 1537
  interfaces := #[17]
  cf := some (fileOf pool19 2 #[] #[] 1537 10 #[12] #[])
  fields := #[]
  methods := #[]
  instanceTypes := #[]
  staticTypes := #[]
  resolved := Array.replicate 67 none
  statics := none }

def pool20 : Array CpInfo := pool [(2, .class_ 4), (1, u "java/util/Collections$UnmodifiableSortedMap"), (3, .class_ 10), (1, u "java/util/Collections$UnmodifiableNavigableMap"), (0, u "nm"), (0, u "Ljava/util/NavigableMap;"), (1, .class_ 16), (1, u "java/util/NavigableMap"), (46, .class_ 65), (1, u "java/util/Collections"), (29, u "EMPTY_NAVIGABLE_MAP"), (0, u "Ljava/util/Collections$UnmodifiableNavigableMap$EmptyNavigableMap;"), (0, .class_ 98), (0, u "java/io/Serializable"), (0, u "serialVersionUID"), (0, u "J")] 64

/-- java/util/Collections$UnmodifiableNavigableMap -/
def k20 : Class := { plain "java/util/Collections$UnmodifiableNavigableMap" (some 18) with
  accessFlags := 32
  interfaces := #[19, 2]
  cf := some (fileOf pool20 8 #[.nestHost 63] #[] 32 2 #[14, 97] #[{ accessFlags := 26, nameIndex := 99, descriptorIndex := 100, attributes := #[] }, { accessFlags := 26, nameIndex := 95, descriptorIndex := 96, attributes := #[] }, { accessFlags := 18, nameIndex := 11, descriptorIndex := 12, attributes := #[] }])
  fields := #[{ name := "serialVersionUID", type := .long, accessFlags := 26, slot := 0, constantValue := 0 }, { name := "EMPTY_NAVIGABLE_MAP", type := (.object "java/util/Collections$UnmodifiableNavigableMap$EmptyNavigableMap"), accessFlags := 26, slot := 1, constantValue := 0 }, { name := "nm", type := (.object "java/util/NavigableMap"), accessFlags := 18, slot := 5, constantValue := 0 }]
  methods := #[]
  instanceTypes := #[(.object "java/util/Map"), (.object "java/util/Set"), (.object "java/util/Set"), (.object "java/util/Collection"), (.object "java/util/SortedMap"), (.object "java/util/NavigableMap")]
  staticTypes := #[.long, (.object "java/util/Collections$UnmodifiableNavigableMap$EmptyNavigableMap")]
  resolved := Array.replicate 165 none
  statics := some 2 }

def pool21 : Array CpInfo := pool [(4, .class_ 6), (1, u "java/lang/Object"), (0, u "<init>"), (0, u "()V"), (5, .class_ 16), (1, u "java/lang/StringLatin1"), (104, u "$assertionsDisabled"), (0, u "Z"), (98, .class_ 223), (1, u "java/lang/StringLatin1$LinesSpliterator"), (166, .class_ 391), (0, u "java/lang/StringLatin1$CharsSpliterator")] 3

def k21m0 : Method := { name := "<init>", desc := "()V", sig := { parameters := [], returnType := none }, accessFlags := 0, code := none }
/-- java/lang/StringLatin1 -/
def k21 : Class := { plain "java/lang/StringLatin1" (some 0) with
  accessFlags := 48
  interfaces := #[]
  cf := some (fileOf pool21 14 #[.nestMembers #[390, 221]] #[{ accessFlags := 0, nameIndex := 7, descriptorIndex := 8, attributes := #[] }] 48 4 #[] #[{ accessFlags := 4120, nameIndex := 121, descriptorIndex := 122, attributes := #[] }])
  fields := #[{ name := "$assertionsDisabled", type := .boolean, accessFlags := 4120, slot := 0, constantValue := 0 }]
  methods := #[k21m0]
  instanceTypes := #[]
  staticTypes := #[.boolean]
  resolved := Array.replicate 395 none
  statics := none }

def pool22 : Array CpInfo := pool [(2, .class_ 4), (1, u "java/lang/Object"), (0, u "<init>"), (0, u "()V"), (17, .class_ 26), (1, u "jdk/internal/util/Preconditions"), (28, .class_ 56), (0, u "jdk/internal/util/Preconditions$4"), (57, .class_ 115), (0, u "jdk/internal/util/Preconditions$1"), (7, u "SIOOBE_FORMATTER"), (0, u "Ljava/util/function/BiFunction;"), (0, .class_ 126), (0, u "jdk/internal/util/Preconditions$2"), (3, u "AIOOBE_FORMATTER"), (0, .class_ 132), (0, u "jdk/internal/util/Preconditions$3"), (3, u "IOOBE_FORMATTER")] 57

def k22m0 : Method := { name := "<init>", desc := "()V", sig := { parameters := [], returnType := none }, accessFlags := 1, code := none }
/-- jdk/internal/util/Preconditions -/
def k22 : Class := { plain "jdk/internal/util/Preconditions" (some 0) with
  accessFlags := 33
  interfaces := #[]
  cf := some (fileOf pool22 24 #[.nestMembers #[55, 131, 125, 114]] #[{ accessFlags := 1, nameIndex := 5, descriptorIndex := 6, attributes := #[] }] 33 2 #[] #[{ accessFlags := 25, nameIndex := 123, descriptorIndex := 124, attributes := #[] }, { accessFlags := 25, nameIndex := 130, descriptorIndex := 124, attributes := #[] }, { accessFlags := 25, nameIndex := 136, descriptorIndex := 124, attributes := #[] }])
  fields := #[{ name := "SIOOBE_FORMATTER", type := (.object "java/util/function/BiFunction"), accessFlags := 25, slot := 0, constantValue := 0 }, { name := "AIOOBE_FORMATTER", type := (.object "java/util/function/BiFunction"), accessFlags := 25, slot := 1, constantValue := 0 }, { name := "IOOBE_FORMATTER", type := (.object "java/util/function/BiFunction"), accessFlags := 25, slot := 2, constantValue := 0 }]
  methods := #[k22m0]
  instanceTypes := #[]
  staticTypes := #[(.object "java/util/function/BiFunction"), (.object "java/util/function/BiFunction"), (.object "java/util/function/BiFunction")]
  resolved := Array.replicate 194 none
  statics := some 3 }

def pool23 : Array CpInfo := pool [(9, u "<init>"), (6, .class_ 18), (1, u "java/lang/Object"), (0, u "()V"), (1, .class_ 23), (1, u "jdk/internal/util/ArraysSupport"), (0, u "LOG2_ARRAY_LONG_INDEX_SCALE"), (0, u "I"), (2, u "U"), (0, u "Ljdk/internal/misc/Unsafe;"), (8, u "BIG_ENDIAN"), (0, u "Z"), (8, u "LOG2_BYTE_BIT_SIZE"), (4, u "LOG2_ARRAY_INT_INDEX_SCALE"), (54, u "JLA"), (0, u "Ljdk/internal/access/JavaLangAccess;"), (11, u "LOG2_ARRAY_BOOLEAN_INDEX_SCALE"), (9, u "LOG2_ARRAY_BYTE_INDEX_SCALE"), (5, u "LOG2_ARRAY_CHAR_INDEX_SCALE"), (5, u "LOG2_ARRAY_SHORT_INDEX_SCALE"), (18, u "LOG2_ARRAY_FLOAT_INDEX_SCALE"), (24, u "LOG2_ARRAY_DOUBLE_INDEX_SCALE"), (89, u "T_BOOLEAN"), (2, u "T_CHAR"), (1, u "T_FLOAT"), (1, u "T_DOUBLE"), (1, u "T_BYTE"), (1, u "T_SHORT"), (1, u "T_INT"), (1, u "T_LONG"), (1, u "SOFT_MAX_ARRAY_LENGTH")] 83

def k23m0 : Method := { name := "<init>", desc := "()V", sig := { parameters := [], returnType := none }, accessFlags := 2, code := none }
/-- jdk/internal/util/ArraysSupport -/
def k23 : Class := { plain "jdk/internal/util/ArraysSupport" (some 0) with
  accessFlags := 33
  interfaces := #[]
  cf := some (fileOf pool23 21 #[] #[{ accessFlags := 2, nameIndex := 9, descriptorIndex := 19, attributes := #[] }] 33 16 #[] #[{ accessFlags := 24, nameIndex := 28, descriptorIndex := 29, attributes := #[] }, { accessFlags := 26, nameIndex := 38, descriptorIndex := 39, attributes := #[] }, { accessFlags := 25, nameIndex := 121, descriptorIndex := 25, attributes := #[] }, { accessFlags := 25, nameIndex := 131, descriptorIndex := 25, attributes := #[] }, { accessFlags := 25, nameIndex := 137, descriptorIndex := 25, attributes := #[] }, { accessFlags := 25, nameIndex := 143, descriptorIndex := 25, attributes := #[] }, { accessFlags := 25, nameIndex := 53, descriptorIndex := 25, attributes := #[] }, { accessFlags := 25, nameIndex := 24, descriptorIndex := 25, attributes := #[] }, { accessFlags := 25, nameIndex := 162, descriptorIndex := 25, attributes := #[] }, { accessFlags := 25, nameIndex := 187, descriptorIndex := 25, attributes := #[] }, { accessFlags := 26, nameIndex := 48, descriptorIndex := 25, attributes := #[] }, { accessFlags := 25, nameIndex := 277, descriptorIndex := 25, attributes := #[] }, { accessFlags := 25, nameIndex := 280, descriptorIndex := 25, attributes := #[] }, { accessFlags := 25, nameIndex := 282, descriptorIndex := 25, attributes := #[] }, { accessFlags := 25, nameIndex := 284, descriptorIndex := 25, attributes := #[] }, { accessFlags := 25, nameIndex := 286, descriptorIndex := 25, attributes := #[] }, { accessFlags := 25, nameIndex := 288, descriptorIndex := 25, attributes := #[] }, { accessFlags := 25, nameIndex := 290, descriptorIndex := 25, attributes := #[] }, { accessFlags := 25, nameIndex := 292, descriptorIndex := 25, attributes := #[] }, { accessFlags := 26, nameIndex := 108, descriptorIndex := 109, attributes := #[] }, { accessFlags := 25, nameIndex := 294, descriptorIndex := 25, attributes := #[] }])
  fields := #[{ name := "U", type := (.object "jdk/internal/misc/Unsafe"), accessFlags := 24, slot := 0, constantValue := 0 }, { name := "BIG_ENDIAN", type := .boolean, accessFlags := 26, slot := 1, constantValue := 0 }, { name := "LOG2_ARRAY_BOOLEAN_INDEX_SCALE", type := .int, accessFlags := 25, slot := 2, constantValue := 0 }, { name := "LOG2_ARRAY_BYTE_INDEX_SCALE", type := .int, accessFlags := 25, slot := 3, constantValue := 0 }, { name := "LOG2_ARRAY_CHAR_INDEX_SCALE", type := .int, accessFlags := 25, slot := 4, constantValue := 0 }, { name := "LOG2_ARRAY_SHORT_INDEX_SCALE", type := .int, accessFlags := 25, slot := 5, constantValue := 0 }, { name := "LOG2_ARRAY_INT_INDEX_SCALE", type := .int, accessFlags := 25, slot := 6, constantValue := 0 }, { name := "LOG2_ARRAY_LONG_INDEX_SCALE", type := .int, accessFlags := 25, slot := 7, constantValue := 0 }, { name := "LOG2_ARRAY_FLOAT_INDEX_SCALE", type := .int, accessFlags := 25, slot := 8, constantValue := 0 }, { name := "LOG2_ARRAY_DOUBLE_INDEX_SCALE", type := .int, accessFlags := 25, slot := 9, constantValue := 0 }, { name := "LOG2_BYTE_BIT_SIZE", type := .int, accessFlags := 26, slot := 10, constantValue := 0 }, { name := "T_BOOLEAN", type := .int, accessFlags := 25, slot := 11, constantValue := 0 }, { name := "T_CHAR", type := .int, accessFlags := 25, slot := 12, constantValue := 0 }, { name := "T_FLOAT", type := .int, accessFlags := 25, slot := 13, constantValue := 0 }, { name := "T_DOUBLE", type := .int, accessFlags := 25, slot := 14, constantValue := 0 }, { name := "T_BYTE", type := .int, accessFlags := 25, slot := 15, constantValue := 0 }, { name := "T_SHORT", type := .int, accessFlags := 25, slot := 16, constantValue := 0 }, { name := "T_INT", type := .int, accessFlags := 25, slot := 17, constantValue := 0 }, { name := "T_LONG", type := .int, accessFlags := 25, slot := 18, constantValue := 0 }, { name := "JLA", type := (.object "jdk/internal/access/JavaLangAccess"), accessFlags := 26, slot := 19, constantValue := 0 }, { name := "SOFT_MAX_ARRAY_LENGTH", type := .int, accessFlags := 25, slot := 20, constantValue := 0 }]
  methods := #[k23m0]
  instanceTypes := #[]
  staticTypes := #[(.object "jdk/internal/misc/Unsafe"), .boolean, .int, .int, .int, .int, .int, .int, .int, .int, .int, .int, .int, .int, .int, .int, .int, .int, .int, (.object "jdk/internal/access/JavaLangAccess"), .int]
  resolved := Array.replicate 378 none
  statics := none }

def pool24 : Array CpInfo := pool [(2, .class_ 4), (1, u "java/lang/Object"), (0, u "<init>"), (0, u "()V"), (1, .class_ 10), (1, u "java/util/AbstractMap"), (42, .class_ 54), (0, u "java/util/Map"), (9, u "keySet"), (0, u "Ljava/util/Set;"), (0, .class_ 67), (0, u "java/util/AbstractMap$1"), (5, u "values"), (0, u "Ljava/util/Collection;"), (0, .class_ 76), (0, u "java/util/AbstractMap$2"), (104, .class_ 182), (0, u "java/util/AbstractMap$ViewCollection"), (0, .class_ 184), (0, u "java/util/AbstractMap$SimpleImmutableEntry"), (0, .class_ 186), (0, u "java/util/AbstractMap$SimpleEntry"), (0, .class_ 188), (0, u "java/util/AbstractMap$2$1"), (0, .class_ 190), (0, u "java/util/AbstractMap$1$1")] 5

def k24m0 : Method := { name := "<init>", desc := "()V", sig := { parameters := [], returnType := none }, accessFlags := 4, code := none }
/-- java/util/AbstractMap -/
def k24 : Class := { plain "java/util/AbstractMap" (some 0) with
  accessFlags := 1057
  interfaces := #[14]
  cf := some (fileOf pool24 8 #[.nestMembers #[181, 183, 185, 75, 187, 66, 189]] #[{ accessFlags := 4, nameIndex := 5, descriptorIndex := 6, attributes := #[] }] 1057 2 #[53] #[{ accessFlags := 128, nameIndex := 64, descriptorIndex := 65, attributes := #[] }, { accessFlags := 128, nameIndex := 73, descriptorIndex := 74, attributes := #[] }])
  fields := #[{ name := "keySet", type := (.object "java/util/Set"), accessFlags := 128, slot := 0, constantValue := 0 }, { name := "values", type := (.object "java/util/Collection"), accessFlags := 128, slot := 1, constantValue := 0 }]
  methods := #[k24m0]
  instanceTypes := #[(.object "java/util/Set"), (.object "java/util/Collection")]
  staticTypes := #[]
  resolved := Array.replicate 196 none
  statics := none }

def pool25 : Array CpInfo := pool [(1, .class_ 2), (0, u "java/lang/Cloneable"), (0, .class_ 4), (0, u "java/lang/Object")] 2

/-- java/lang/Cloneable -/
def k25 : Class := { plain "java/lang/Cloneable" (some 0) with
  accessFlags := 1537
  interfaces := #[]
  cf := some (fileOf pool25 1 #[] #[] 1537 3 #[] #[])
  fields := #[]
  methods := #[]
  instanceTypes := #[]
  staticTypes := #[]
  resolved := Array.replicate 7 none
  statics := none }

def pool26 : Array CpInfo := pool [(2, .class_ 4), (1, u "java/util/AbstractMap"), (0, u "<init>"), (0, u "()V"), (1, .class_ 10), (1, u "java/util/TreeMap"), (0, u "size"), (0, u "I"), (2, u "modCount"), (2, u "comparator"), (0, u "Ljava/util/Comparator;"), (14, u "entrySet"), (24, .class_ 61), (1, u "java/util/TreeMap$Entry"), (1, u "Ljava/lang/Object;"), (39, u "root"), (0, u "Ljava/util/TreeMap$Entry;"), (85, u "Ljava/util/TreeMap$EntrySet;"), (2, u "navigableKeySet"), (0, u "Ljava/util/TreeMap$KeySet;"), (2, u "descendingMap"), (0, u "Ljava/util/NavigableMap;"), (23, .class_ 223), (0, u "java/util/TreeMap$KeySet"), (7, .class_ 232), (0, u "java/util/NavigableMap"), (4, .class_ 238), (0, u "java/util/TreeMap$Values"), (3, .class_ 243), (0, u "java/util/TreeMap$EntrySet"), (1, .class_ 246), (0, u "java/util/TreeMap$DescendingSubMap"), (3, .class_ 251), (0, u "java/util/TreeMap$AscendingSubMap"), (17, .class_ 270), (0, u "java/util/TreeMap$KeyIterator"), (3, .class_ 275), (0, u "java/util/TreeMap$DescendingKeyIterator"), (17, u "Z"), (94, .class_ 389), (0, u "java/util/TreeMap$NavigableSubMap"), (1, .class_ 392), (0, u "java/util/TreeMap$KeySpliterator"), (3, .class_ 397), (0, u "java/util/TreeMap$DescendingKeySpliterator"), (4, u "UNBOUNDED"), (0, .class_ 404), (0, u "java/lang/Cloneable"), (0, .class_ 406), (0, u "java/io/Serializable"), (6, u "RED"), (2, u "BLACK"), (1, u "serialVersionUID"), (0, u "J"), (214, .class_ 635), (0, u "java/util/TreeMap$EntrySpliterator"), (0, .class_ 637), (0, u "java/util/TreeMap$ValueSpliterator"), (0, .class_ 639), (0, u "java/util/TreeMap$TreeMapSpliterator"), (0, .class_ 641), (0, u "java/util/TreeMap$SubMap"), (0, .class_ 643), (0, u "java/util/TreeMap$DescendingSubMap$DescendingEntrySetView"), (0, .class_ 645), (0, u "java/util/TreeMap$AscendingSubMap$AscendingEntrySetView"), (0, .class_ 647), (0, u "java/util/TreeMap$NavigableSubMap$DescendingSubMapKeyIterator"), (0, .class_ 649), (0, u "java/util/TreeMap$NavigableSubMap$SubMapKeyIterator"), (0, .class_ 651), (0, u "java/util/TreeMap$NavigableSubMap$DescendingSubMapEntryIterator"), (0, .class_ 653), (0, u "java/util/TreeMap$NavigableSubMap$SubMapEntryIterator"), (0, .class_ 655), (0, u "java/util/TreeMap$NavigableSubMap$SubMapIterator"), (0, .class_ 657), (0, u "java/util/TreeMap$NavigableSubMap$EntrySetView"), (0, .class_ 659), (0, u "java/util/TreeMap$ValueIterator"), (0, .class_ 661), (0, u "java/util/TreeMap$EntryIterator"), (0, .class_ 663), (0, u "java/util/TreeMap$PrivateEntryIterator")] 28

def k26m0 : Method := { name := "<init>", desc := "()V", sig := { parameters := [], returnType := none }, accessFlags := 1, code := none }
/-- java/util/TreeMap -/
def k26 : Class := { plain "java/util/TreeMap" (some 24) with
  accessFlags := 33
  interfaces := #[19, 25, 2]
  cf := some (fileOf pool26 8 #[.nestMembers #[634, 636, 396, 391, 638, 59, 640, 245, 642, 250, 644, 388, 646, 648, 650, 652, 654, 656, 274, 269, 658, 660, 662, 222, 242, 237]] #[{ accessFlags := 1, nameIndex := 5, descriptorIndex := 6, attributes := #[] }] 33 2 #[231, 403, 405] #[{ accessFlags := 18, nameIndex := 18, descriptorIndex := 19, attributes := #[] }, { accessFlags := 130, nameIndex := 103, descriptorIndex := 104, attributes := #[] }, { accessFlags := 130, nameIndex := 11, descriptorIndex := 12, attributes := #[] }, { accessFlags := 130, nameIndex := 15, descriptorIndex := 12, attributes := #[] }, { accessFlags := 130, nameIndex := 34, descriptorIndex := 190, attributes := #[] }, { accessFlags := 130, nameIndex := 193, descriptorIndex := 194, attributes := #[] }, { accessFlags := 130, nameIndex := 197, descriptorIndex := 198, attributes := #[] }, { accessFlags := 26, nameIndex := 402, descriptorIndex := 63, attributes := #[] }, { accessFlags := 26, nameIndex := 413, descriptorIndex := 293, attributes := #[] }, { accessFlags := 26, nameIndex := 416, descriptorIndex := 293, attributes := #[] }, { accessFlags := 26, nameIndex := 418, descriptorIndex := 419, attributes := #[] }])
  fields := #[{ name := "comparator", type := (.object "java/util/Comparator"), accessFlags := 18, slot := 2, constantValue := 0 }, { name := "root", type := (.object "java/util/TreeMap$Entry"), accessFlags := 130, slot := 3, constantValue := 0 }, { name := "size", type := .int, accessFlags := 130, slot := 4, constantValue := 0 }, { name := "modCount", type := .int, accessFlags := 130, slot := 5, constantValue := 0 }, { name := "entrySet", type := (.object "java/util/TreeMap$EntrySet"), accessFlags := 130, slot := 6, constantValue := 0 }, { name := "navigableKeySet", type := (.object "java/util/TreeMap$KeySet"), accessFlags := 130, slot := 7, constantValue := 0 }, { name := "descendingMap", type := (.object "java/util/NavigableMap"), accessFlags := 130, slot := 8, constantValue := 0 }, { name := "UNBOUNDED", type := (.object "java/lang/Object"), accessFlags := 26, slot := 0, constantValue := 0 }, { name := "RED", type := .boolean, accessFlags := 26, slot := 1, constantValue := 0 }, { name := "BLACK", type := .boolean, accessFlags := 26, slot := 2, constantValue := 0 }, { name := "serialVersionUID", type := .long, accessFlags := 26, slot := 3, constantValue := 0 }]
  methods := #[k26m0]
  instanceTypes := #[(.object "java/util/Set"), (.object "java/util/Collection"), (.object "java/util/Comparator"), (.object "java/util/TreeMap$Entry"), .int, .int, (.object "java/util/TreeMap$EntrySet"), (.object "java/util/TreeMap$KeySet"), (.object "java/util/NavigableMap")]
  staticTypes := #[(.object "java/lang/Object"), .boolean, .boolean, .long]
  resolved := Array.replicate 692 none
  statics := none }

def pool27 : Array CpInfo := pool [(5, u "<init>"), (0, u "()V"), (1, .class_ 10), (1, u "java/util/Collections$UnmodifiableNavigableMap"), (2, .class_ 15), (1, u "java/util/Collections"), (6, .class_ 23), (0, u "java/util/Collections$UnmodifiableNavigableMap$EmptyNavigableMap"), (0, .class_ 25), (0, u "java/io/Serializable"), (0, u "serialVersionUID"), (0, u "J")] 21

def k27m0 : Method := { name := "<init>", desc := "()V", sig := { parameters := [], returnType := none }, accessFlags := 0, code := none }
/-- java/util/Collections$UnmodifiableNavigableMap$EmptyNavigableMap -/
def k27 : Class := { plain "java/util/Collections$UnmodifiableNavigableMap$EmptyNavigableMap" (some 20) with
  accessFlags := 32
  interfaces := #[2]
  cf := some (fileOf pool27 22 #[.nestHost 13] #[{ accessFlags := 0, nameIndex := 5, descriptorIndex := 6, attributes := #[] }] 32 8 #[24] #[{ accessFlags := 26, nameIndex := 26, descriptorIndex := 27, attributes := #[] }])
  fields := #[{ name := "serialVersionUID", type := .long, accessFlags := 26, slot := 0, constantValue := 0 }]
  methods := #[k27m0]
  instanceTypes := #[(.object "java/util/Map"), (.object "java/util/Set"), (.object "java/util/Set"), (.object "java/util/Collection"), (.object "java/util/SortedMap"), (.object "java/util/NavigableMap")]
  staticTypes := #[.long]
  resolved := Array.replicate 49 none
  statics := none }

/-- the primitive byte -/
def k28 : Class := { plain "byte" none with kind := .primitive 'B', accessFlags := 0x411 }
/-- [B -/
def k29 : Class := { plain "[B" (some 0) with kind := .array 28 .byte, interfaces := #[25, 2], accessFlags := 1041 }

/-- the primitive char -/
def k30 : Class := { plain "char" none with kind := .primitive 'C', accessFlags := 0x411 }
/-- [C -/
def k31 : Class := { plain "[C" (some 0) with kind := .array 30 .char, interfaces := #[25, 2], accessFlags := 1041 }

/-- the primitive int -/
def k32 : Class := { plain "int" none with kind := .primitive 'I', accessFlags := 0x411 }
/-- [I -/
def k33 : Class := { plain "[I" (some 0) with kind := .array 32 .int, interfaces := #[25, 2], accessFlags := 1041 }

def heap : Heap := #[{ cls := 7, slots := #[.long 0, .int 1, .null, .int 0, .null, .int 0, .int 0], vm := .statics 7 },
  { cls := 12, slots := #[.null, .null, .null, .null, .ref 4, .null], vm := .statics 12 },
  { cls := 20, slots := #[.long 0, .ref 6], vm := .statics 20 },
  { cls := 22, slots := #[.null, .null, .null], vm := .statics 22 },
  { cls := 12, slots := #[.null, .int 4, .int 0], vm := .none },
  { cls := 26, slots := #[.null, .null, .null, .null, .int 0, .int 0, .null, .null, .null], vm := .none },
  { cls := 27, slots := #[.ref 5, .null, .null, .null, .ref 5, .ref 5], vm := .none }]
def classes : Array Class := #[k0, k1, k2, k3, k4, k5, k6, k7, k8, k9, k10, k11, k12, k13, k14, k15, k16, k17, k18, k19, k20, k21, k22, k23, k24, k25, k26, k27, k28, k29, k30, k31, k32, k33]
def interned : List (Array UInt16 × Addr) := []
def slotsUsed : Nat := 36
def theMethod : MethodId := ⟨1, 1⟩
def args0 : Array Value := #[.int 2, .int 65, .int 66, .int 67, .int 0]
def aboutOver (below : List Frame) : State where
  vm := { classes := classes, interned := interned.toArray }
  heap := heap
  slotsUsed := slotsUsed
  threads := #[{ frames := .invoking theMethod args0 :: below }]
def below0 : List Frame := [.native { method := ⟨0, 0⟩, args := #[] }]
def about1 : State := aboutOver below0
def p0 : Program := .bare "" "" ""
def e0 : Env := launch0.env 0 0 0
theorem w_frames : about1.frames = Frame.invoking theMethod args0 :: below0 := rfl
set_option maxRecDepth 65536 in
theorem w_args : argsFit about1.vm theMethod args0 = true := by decide +kernel
set_option maxRecDepth 65536 in
theorem w_heap : heapFits about1 = true := by decide +kernel
set_option maxRecDepth 65536 in
theorem w_runnable : about1.curStatus? = some .runnable := by decide +kernel
set_option maxRecDepth 65536 in
theorem w_alone : about1.alone = true := by decide +kernel
set_option maxRecDepth 65536 in
theorem w_named : about1.methodNamed? x = some theMethod := by decide +kernel
set_option maxRecDepth 65536 in
theorem w_hears : about1.hears theMethod below0 = true := by decide +kernel
set_option maxRecDepth 65536 in
theorem w_ripe : about1.ripe theMethod args0 below0 = true := by decide +kernel
theorem w_running : about1.status = .running := rfl
set_option maxRecDepth 65536 in
theorem w_room : about1.hasRoom e0.platform room_1 = true :=
  launch0.hasRoom_least _ room_1 (by decide +kernel) (by decide +kernel) (by decide +kernel) (by decide +kernel) (by decide +kernel) (by decide +kernel)
theorem allAtoms_all (ts : List Jvm.Cond) (a : Array Jvm.Value) (st : Jvm.State) : (allAtoms ts).before a st = ts.all (fun c => c.before a st) := by
  induction ts with
  | nil => rfl
  | cons c t ih =>
    show (Jvm.Cond.and c (allAtoms t)).before a st = _
    rw [Jvm.Cond.before_and, ih, List.all_cons]
def words1 : List Jvm.Cond := Jvm.Cond.code x code maxLocals ret :: tables_1
/-- a 'code' word, met by the world's own term for the bytes: nothing is compared byte by byte -/
theorem code_word {y : MethodName} {bytes : ByteArray} {mx : Nat} {rt : Option FieldType} {a : Array Value} {s : State} {m : MethodId} {meth : Method} {c : Code} (h1 : s.methodNamed? y = some m) (h2 : s.vm.method? m = some meth) (h3 : meth.code = some c) (h4 : c.code = bytes)
    (h5 : (c.maxLocals == mx && c.exceptionTable.isEmpty && decide (c.maxStack ≤ mostOperands) && decide (meth.sig.returnType = rt) && !meth.locks && decide (parseMethodDescriptor y.desc = some meth.sig)) = true) : (Jvm.Cond.code y bytes mx rt).before a s = true := by
  simp only [Bool.and_eq_true, beq_iff_eq, Bool.not_eq_true', decide_eq_true_eq] at h5
  obtain ⟨⟨⟨⟨⟨g1, g2⟩, g3⟩, g4⟩, g5⟩, g6⟩ := h5
  simp [Cond.before, Cond.holds, Cond.value, h1, h2, h3, h4, g1, g2, g3, g4, g5, g6]
def isCode : Jvm.Cond → Bool
  | .code _ _ _ _ => true
  | _ => false
theorem all_split {L : List Jvm.Cond} {P : Jvm.Cond → Bool} (h1 : L.all (fun c => isCode c || P c) = true) (h2 : ∀ c ∈ L.filter isCode, P c = true) : L.all P = true := by
  refine List.all_eq_true.mpr fun c hc => ?_
  have h := List.all_eq_true.mp h1 c hc
  rcases Bool.eq_false_or_eq_true (isCode c) with hi | hi
  · exact h2 c (List.mem_filter.mpr ⟨hc, hi⟩)
  · simpa [hi] using h
set_option maxRecDepth 65536 in
theorem w_c0 : (Jvm.Cond.code x code maxLocals ret).before args0 about1 = true := code_word (m := ⟨1, 1⟩) (meth := k1m1) (c := k1c1) (by decide +kernel) rfl rfl rfl (by decide +kernel)
set_option maxRecDepth 65536 in
theorem w_c1 : (Jvm.Cond.code ({ cls := "java/lang/String", name := "<init>", desc := "([C)V" } : Jvm.MethodName) jdk_42_method_3_code (2 : Nat) (Option.none : Option Jvm.ClassFile.FieldType)).before args0 about1 = true := code_word (m := ⟨7, 1⟩) (meth := k7m1) (c := k7c1) (by decide +kernel) rfl rfl rfl (by decide +kernel)
set_option maxRecDepth 65536 in
theorem w_c2 : (Jvm.Cond.code ({ cls := "java/lang/String", name := "<init>", desc := "([CIILjava/lang/Void;)V" } : Jvm.MethodName) jdk_42_method_149_code (6 : Nat) (Option.none : Option Jvm.ClassFile.FieldType)).before args0 about1 = true := code_word (m := ⟨7, 4⟩) (meth := k7m4) (c := k7c4) (by decide +kernel) rfl rfl rfl (by decide +kernel)
set_option maxRecDepth 65536 in
theorem w_c3 : (Jvm.Cond.code ({ cls := "java/lang/Object", name := "<init>", desc := "()V" } : Jvm.MethodName) object_method_1_code (1 : Nat) (Option.none : Option Jvm.ClassFile.FieldType)).before args0 about1 = true := code_word (m := ⟨0, 0⟩) (meth := k0m0) (c := k0c0) (by decide +kernel) rfl rfl rfl (by decide +kernel)
set_option maxRecDepth 65536 in
theorem w_c4 : (Jvm.Cond.code ({ cls := "java/lang/StringUTF16", name := "compress", desc := "([CII)[B" } : Jvm.MethodName) jdk_52_method_16_code (6 : Nat) (Option.some (Jvm.ClassFile.FieldType.array Jvm.ClassFile.FieldType.byte))).before args0 about1 = true := code_word (m := ⟨8, 2⟩) (meth := k8m2) (c := k8c2) (by decide +kernel) rfl rfl rfl (by decide +kernel)
set_option maxRecDepth 65536 in
theorem w_c5 : (Jvm.Cond.code ({ cls := "java/lang/StringUTF16", name := "compress", desc := "([CI[BII)I" } : Jvm.MethodName) jdk_52_method_21_code (7 : Nat) (Option.some Jvm.ClassFile.FieldType.int)).before args0 about1 = true := code_word (m := ⟨8, 3⟩) (meth := k8m3) (c := k8c3) (by decide +kernel) rfl rfl rfl (by decide +kernel)
set_option maxRecDepth 65536 in
theorem w_c6 : (Jvm.Cond.code ({ cls := "java/lang/StringUTF16", name := "coderFromArrayLen", desc := "([BI)B" } : Jvm.MethodName) jdk_52_method_15_code (2 : Nat) (Option.some Jvm.ClassFile.FieldType.byte)).before args0 about1 = true := code_word (m := ⟨8, 1⟩) (meth := k8m1) (c := k8c1) (by decide +kernel) rfl rfl rfl (by decide +kernel)
set_option maxRecDepth 65536 in
theorem w_c7 : (Jvm.Cond.code ({ cls := "com/example/rollcall/rollcall/Event", name := "gap", desc := "(Ljava/lang/String;)Lcom/example/rollcall/rollcall/Event;" } : Jvm.MethodName) prog_4_method_3_code (1 : Nat) (Option.some (Jvm.ClassFile.FieldType.object "com/example/rollcall/rollcall/Event"))).before args0 about1 = true := code_word (m := ⟨10, 2⟩) (meth := k10m2) (c := k10c2) (by decide +kernel) rfl rfl rfl (by decide +kernel)
set_option maxRecDepth 65536 in
theorem w_c8 : (Jvm.Cond.code ({ cls := "com/example/rollcall/rollcall/Event", name := "<init>", desc := "(Ljava/lang/String;Ljava/lang/String;Lcom/example/rollcall/rollcall/Event$Kind;Lcom/example/rollcall/rollcall/Standing;Ljava/lang/Long;)V" } : Jvm.MethodName) prog_4_method_1_code (6 : Nat) (Option.none : Option Jvm.ClassFile.FieldType)).before args0 about1 = true := code_word (m := ⟨10, 0⟩) (meth := k10m0) (c := k10c0) (by decide +kernel) rfl rfl rfl (by decide +kernel)
set_option maxRecDepth 65536 in
theorem w_c9 : (Jvm.Cond.code ({ cls := "java/util/Collections", name := "emptySortedMap", desc := "()Ljava/util/SortedMap;" } : Jvm.MethodName) jdk_79_method_69_code (0 : Nat) (Option.some (Jvm.ClassFile.FieldType.object "java/util/SortedMap"))).before args0 about1 = true := code_word (m := ⟨13, 1⟩) (meth := k13m1) (c := k13c1) (by decide +kernel) rfl rfl rfl (by decide +kernel)
set_option maxRecDepth 65536 in
theorem w_c10 : (Jvm.Cond.code ({ cls := "com/example/rollcall/rollcall/Event", name := "<init>", desc := "(Ljava/lang/String;Ljava/lang/String;Lcom/example/rollcall/rollcall/Event$Kind;Lcom/example/rollcall/rollcall/Standing;Ljava/lang/Long;Ljava/util/SortedMap;)V" } : Jvm.MethodName) prog_4_method_2_code (7 : Nat) (Option.none : Option Jvm.ClassFile.FieldType)).before args0 about1 = true := code_word (m := ⟨10, 1⟩) (meth := k10m1) (c := k10c1) (by decide +kernel) rfl rfl rfl (by decide +kernel)
set_option maxRecDepth 65536 in
theorem w_c11 : (Jvm.Cond.code ({ cls := "java/lang/Record", name := "<init>", desc := "()V" } : Jvm.MethodName) jdk_30_method_1_code (1 : Nat) (Option.none : Option Jvm.ClassFile.FieldType)).before args0 about1 = true := code_word (m := ⟨9, 0⟩) (meth := k9m0) (c := k9c0) (by decide +kernel) rfl rfl rfl (by decide +kernel)
set_option maxRecDepth 65536 in
theorem w_c12 : (Jvm.Cond.code ({ cls := "com/example/rollcall/rollcall/Event", name := "scope", desc := "()Ljava/lang/String;" } : Jvm.MethodName) prog_4_method_7_code (1 : Nat) (Option.some (Jvm.ClassFile.FieldType.object "java/lang/String"))).before args0 about1 = true := code_word (m := ⟨10, 3⟩) (meth := k10m3) (c := k10c3) (by decide +kernel) rfl rfl rfl (by decide +kernel)
set_option maxRecDepth 65536 in
theorem w_c13 : (Jvm.Cond.code ({ cls := "java/lang/String", name := "equals", desc := "(Ljava/lang/Object;)Z" } : Jvm.MethodName) jdk_42_method_66_code (3 : Nat) (Option.some Jvm.ClassFile.FieldType.boolean)).before args0 about1 = true := code_word (m := ⟨7, 3⟩) (meth := k7m3) (c := k7c3) (by decide +kernel) rfl rfl rfl (by decide +kernel)
set_option maxRecDepth 65536 in
theorem w_c14 : (Jvm.Cond.code ({ cls := "java/lang/String", name := "length", desc := "()I" } : Jvm.MethodName) jdk_42_method_54_code (1 : Nat) (Option.some Jvm.ClassFile.FieldType.int)).before args0 about1 = true := code_word (m := ⟨7, 2⟩) (meth := k7m2) (c := k7c2) (by decide +kernel) rfl rfl rfl (by decide +kernel)
set_option maxRecDepth 65536 in
theorem w_c15 : (Jvm.Cond.code ({ cls := "java/lang/String", name := "coder", desc := "()B" } : Jvm.MethodName) jdk_42_method_152_code (1 : Nat) (Option.some Jvm.ClassFile.FieldType.byte)).before args0 about1 = true := code_word (m := ⟨7, 5⟩) (meth := k7m5) (c := k7c5) (by decide +kernel) rfl rfl rfl (by decide +kernel)
set_option maxRecDepth 65536 in
theorem w_c16 : (Jvm.Cond.code ({ cls := "com/example/rollcall/rollcall/Event", name := "instrument", desc := "()Ljava/lang/String;" } : Jvm.MethodName) prog_4_method_8_code (1 : Nat) (Option.some (Jvm.ClassFile.FieldType.object "java/lang/String"))).before args0 about1 = true := code_word (m := ⟨10, 4⟩) (meth := k10m4) (c := k10c4) (by decide +kernel) rfl rfl rfl (by decide +kernel)
set_option maxRecDepth 65536 in
theorem w_c17 : (Jvm.Cond.code ({ cls := "com/example/rollcall/rollcall/Event", name := "kind", desc := "()Lcom/example/rollcall/rollcall/Event$Kind;" } : Jvm.MethodName) prog_4_method_9_code (1 : Nat) (Option.some (Jvm.ClassFile.FieldType.object "com/example/rollcall/rollcall/Event$Kind"))).before args0 about1 = true := code_word (m := ⟨10, 5⟩) (meth := k10m5) (c := k10c5) (by decide +kernel) rfl rfl rfl (by decide +kernel)
set_option maxRecDepth 65536 in
theorem w_c18 : (Jvm.Cond.code ({ cls := "com/example/rollcall/rollcall/Event", name := "standing", desc := "()Lcom/example/rollcall/rollcall/Standing;" } : Jvm.MethodName) prog_4_method_10_code (1 : Nat) (Option.some (Jvm.ClassFile.FieldType.object "com/example/rollcall/rollcall/Standing"))).before args0 about1 = true := code_word (m := ⟨10, 6⟩) (meth := k10m6) (c := k10c6) (by decide +kernel) rfl rfl rfl (by decide +kernel)
set_option maxRecDepth 65536 in
theorem w_c19 : (Jvm.Cond.code ({ cls := "com/example/rollcall/rollcall/Event", name := "at", desc := "()Ljava/lang/Long;" } : Jvm.MethodName) prog_4_method_11_code (1 : Nat) (Option.some (Jvm.ClassFile.FieldType.object "java/lang/Long"))).before args0 about1 = true := code_word (m := ⟨10, 7⟩) (meth := k10m7) (c := k10c7) (by decide +kernel) rfl rfl rfl (by decide +kernel)
def codes1 : List Jvm.Cond := [Jvm.Cond.code x code maxLocals ret, Jvm.Cond.code ({ cls := "java/lang/String", name := "<init>", desc := "([C)V" } : Jvm.MethodName) jdk_42_method_3_code (2 : Nat) (Option.none : Option Jvm.ClassFile.FieldType), Jvm.Cond.code ({ cls := "java/lang/String", name := "<init>", desc := "([CIILjava/lang/Void;)V" } : Jvm.MethodName) jdk_42_method_149_code (6 : Nat) (Option.none : Option Jvm.ClassFile.FieldType), Jvm.Cond.code ({ cls := "java/lang/Object", name := "<init>", desc := "()V" } : Jvm.MethodName) object_method_1_code (1 : Nat) (Option.none : Option Jvm.ClassFile.FieldType), Jvm.Cond.code ({ cls := "java/lang/StringUTF16", name := "compress", desc := "([CII)[B" } : Jvm.MethodName) jdk_52_method_16_code (6 : Nat) (Option.some (Jvm.ClassFile.FieldType.array Jvm.ClassFile.FieldType.byte)), Jvm.Cond.code ({ cls := "java/lang/StringUTF16", name := "compress", desc := "([CI[BII)I" } : Jvm.MethodName) jdk_52_method_21_code (7 : Nat) (Option.some Jvm.ClassFile.FieldType.int), Jvm.Cond.code ({ cls := "java/lang/StringUTF16", name := "coderFromArrayLen", desc := "([BI)B" } : Jvm.MethodName) jdk_52_method_15_code (2 : Nat) (Option.some Jvm.ClassFile.FieldType.byte), Jvm.Cond.code ({ cls := "com/example/rollcall/rollcall/Event", name := "gap", desc := "(Ljava/lang/String;)Lcom/example/rollcall/rollcall/Event;" } : Jvm.MethodName) prog_4_method_3_code (1 : Nat) (Option.some (Jvm.ClassFile.FieldType.object "com/example/rollcall/rollcall/Event")), Jvm.Cond.code ({ cls := "com/example/rollcall/rollcall/Event", name := "<init>", desc := "(Ljava/lang/String;Ljava/lang/String;Lcom/example/rollcall/rollcall/Event$Kind;Lcom/example/rollcall/rollcall/Standing;Ljava/lang/Long;)V" } : Jvm.MethodName) prog_4_method_1_code (6 : Nat) (Option.none : Option Jvm.ClassFile.FieldType), Jvm.Cond.code ({ cls := "java/util/Collections", name := "emptySortedMap", desc := "()Ljava/util/SortedMap;" } : Jvm.MethodName) jdk_79_method_69_code (0 : Nat) (Option.some (Jvm.ClassFile.FieldType.object "java/util/SortedMap")), Jvm.Cond.code ({ cls := "com/example/rollcall/rollcall/Event", name := "<init>", desc := "(Ljava/lang/String;Ljava/lang/String;Lcom/example/rollcall/rollcall/Event$Kind;Lcom/example/rollcall/rollcall/Standing;Ljava/lang/Long;Ljava/util/SortedMap;)V" } : Jvm.MethodName) prog_4_method_2_code (7 : Nat) (Option.none : Option Jvm.ClassFile.FieldType), Jvm.Cond.code ({ cls := "java/lang/Record", name := "<init>", desc := "()V" } : Jvm.MethodName) jdk_30_method_1_code (1 : Nat) (Option.none : Option Jvm.ClassFile.FieldType), Jvm.Cond.code ({ cls := "com/example/rollcall/rollcall/Event", name := "scope", desc := "()Ljava/lang/String;" } : Jvm.MethodName) prog_4_method_7_code (1 : Nat) (Option.some (Jvm.ClassFile.FieldType.object "java/lang/String")), Jvm.Cond.code ({ cls := "java/lang/String", name := "equals", desc := "(Ljava/lang/Object;)Z" } : Jvm.MethodName) jdk_42_method_66_code (3 : Nat) (Option.some Jvm.ClassFile.FieldType.boolean), Jvm.Cond.code ({ cls := "java/lang/String", name := "length", desc := "()I" } : Jvm.MethodName) jdk_42_method_54_code (1 : Nat) (Option.some Jvm.ClassFile.FieldType.int), Jvm.Cond.code ({ cls := "java/lang/String", name := "coder", desc := "()B" } : Jvm.MethodName) jdk_42_method_152_code (1 : Nat) (Option.some Jvm.ClassFile.FieldType.byte), Jvm.Cond.code ({ cls := "com/example/rollcall/rollcall/Event", name := "instrument", desc := "()Ljava/lang/String;" } : Jvm.MethodName) prog_4_method_8_code (1 : Nat) (Option.some (Jvm.ClassFile.FieldType.object "java/lang/String")), Jvm.Cond.code ({ cls := "com/example/rollcall/rollcall/Event", name := "kind", desc := "()Lcom/example/rollcall/rollcall/Event$Kind;" } : Jvm.MethodName) prog_4_method_9_code (1 : Nat) (Option.some (Jvm.ClassFile.FieldType.object "com/example/rollcall/rollcall/Event$Kind")), Jvm.Cond.code ({ cls := "com/example/rollcall/rollcall/Event", name := "standing", desc := "()Lcom/example/rollcall/rollcall/Standing;" } : Jvm.MethodName) prog_4_method_10_code (1 : Nat) (Option.some (Jvm.ClassFile.FieldType.object "com/example/rollcall/rollcall/Standing")), Jvm.Cond.code ({ cls := "com/example/rollcall/rollcall/Event", name := "at", desc := "()Ljava/lang/Long;" } : Jvm.MethodName) prog_4_method_11_code (1 : Nat) (Option.some (Jvm.ClassFile.FieldType.object "java/lang/Long"))]
set_option maxRecDepth 65536 in
theorem codes_eq : words1.filter isCode = codes1 := rfl
theorem w_codes : ∀ c ∈ words1.filter isCode, c.before args0 about1 = true := by
  rw [codes_eq]
  intro c hc
  simp only [codes1, List.mem_cons, List.not_mem_nil, or_false] at hc
  rcases hc with rfl | rfl | rfl | rfl | rfl | rfl | rfl | rfl | rfl | rfl | rfl | rfl | rfl | rfl | rfl | rfl | rfl | rfl | rfl | rfl
  · exact w_c0
  · exact w_c1
  · exact w_c2
  · exact w_c3
  · exact w_c4
  · exact w_c5
  · exact w_c6
  · exact w_c7
  · exact w_c8
  · exact w_c9
  · exact w_c10
  · exact w_c11
  · exact w_c12
  · exact w_c13
  · exact w_c14
  · exact w_c15
  · exact w_c16
  · exact w_c17
  · exact w_c18
  · exact w_c19
set_option maxRecDepth 65536 in
theorem w_t1 : (words1.take 24).all (fun c => isCode c || c.before args0 about1) = true := by decide +kernel
set_option maxRecDepth 65536 in
theorem w_t2 : ((words1.drop 24).take 24).all (fun c => isCode c || c.before args0 about1) = true := by decide +kernel
set_option maxRecDepth 65536 in
theorem w_t3 : (((words1.drop 24).drop 24).take 24).all (fun c => isCode c || c.before args0 about1) = true := by decide +kernel
set_option maxRecDepth 65536 in
theorem w_t4 : ((((words1.drop 24).drop 24).drop 24).take 24).all (fun c => isCode c || c.before args0 about1) = true := by decide +kernel
set_option maxRecDepth 65536 in
theorem w_t5 : ((((words1.drop 24).drop 24).drop 24).drop 24).all (fun c => isCode c || c.before args0 about1) = true := by decide +kernel
theorem w_tables : (allAtoms (Jvm.Cond.code x code maxLocals ret :: tables_1)).before args0 about1 = true := by
  rw [allAtoms_all]
  show words1.all (fun c => c.before args0 about1) = true
  refine all_split ?_ w_codes
  rw [← List.take_append_drop 24 words1, List.all_append, w_t1, ← List.take_append_drop 24 (words1.drop 24), List.all_append, w_t2, ← List.take_append_drop 24 ((words1.drop 24).drop 24), List.all_append, w_t3, ← List.take_append_drop 24 (((words1.drop 24).drop 24).drop 24), List.all_append, w_t4, w_t5]
  rfl
set_option maxRecDepth 65536 in
theorem w_rest : rest_1_c.before args0 about1 = true := by decide +kernel
set_option maxRecDepth 65536 in
theorem w_case : (Jvm.Cond.and given_1 narrow_1).before args0 about1 = true := by decide +kernel
set_option maxRecDepth 65536 in
theorem w_consts : constsHeld consts_1 about1 := Jvm.Lit.constsHeldB_iff.mp (by decide +kernel)
theorem w_applies : (headSpec (Jvm.Cond.code x code maxLocals ret :: tables_1) room_1).applies x e0.platform about1 = true :=
  (Spec.applies_iff w_frames).mpr ⟨w_running, w_runnable, w_alone, w_named, w_hears, w_ripe, w_room, w_tables⟩
theorem atStart : AtStart classFile x code maxLocals ret World_1 tables_1 room_1 Calls_1 rest_1 Pre_1 launch0 p0 e0 about1 theMethod args0 below0 :=
  ⟨lists_1, trivial, launch0.admits_env _ _ _, launch0.least_env, fairChoices_fair.cas, fairChoices_fair.clock, w_frames, w_args, w_heap, w_applies, ⟨w_consts, trivial⟩, w_rest, w_case⟩
end start1
theorem witness_1 : WitnessClaimed_1 := ⟨start1.p0, start1.e0, start1.about1, start1.theMethod, start1.args0, start1.below0, start1.atStart⟩
end Jvm.Pilot.@@N@@
