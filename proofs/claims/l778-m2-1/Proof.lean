import JvmDerived
import JvmDerived.Pilot.@@N@@Statement
import JvmDerived.Pilot.@@N@@Code
set_option linter.unusedVariables false
set_option linter.unusedSimpArgs false
/- laws to paste: Road.backV, Road.lenW, Road.codOf (cut by pick.py; bodies as the Statement names them) -/
namespace Jvm.Pilot.@@N@@
namespace StrChars
open Jvm Sem ClassFile Op Lib Jvm.Stand Jvm.Free.XT Jvm.Free.ALB Jvm.Free.JM Jvm.Free
open Jvm.Lib.Cold (StaticIs)
/-- a char array whose places are chars -/
def Ch (a : Addr) (A : Cell) (U : State) : Prop := Arr .char a A U ∧ Typed .char A
theorem Ch.mv {a : Addr} {A : Cell} {U U' : State} (h : Ch a A U) (hal : U.vm.Alike U'.vm) (hh : U'.heap = U.heap) : Ch a A U' := ⟨h.1.mv hal hh, h.2⟩
theorem Ch.keep {a : Addr} {A : Cell} {U U' : State} (h : Ch a A U) (hal : U.vm.Alike U'.vm) (hk : U'.heap[a]? = some A) : Ch a A U' := ⟨h.1.keep hal hk, h.2⟩
/-- what place i of a char[]'s cell holds -/
def cv (A : Cell) (i : Nat) : Int32 := match A.slots[i]? with | some (.int x) => x | _ => 0
theorem Ch.get {a : Addr} {A : Cell} {U : State} (h : Ch a A U) {i : Nat} (hi : i < A.slots.size) : A.slots[i]? = some (.int (cv A i)) := by
  have e := Array.getElem?_eq_getElem hi
  have f := h.2 i _ e
  unfold cv; rw [e]
  generalize A.slots[i] = v at f
  cases v <;> simp [fits] at f ⊢
/-- the byte that i2b leaves of a char -/
def lo8 (x : Int32) : Int32 := x.toInt8.toInt32
theorem fits_lo8 (y : Int32) : fits .byte (.int (lo8 y)) = true := by
  have h1 := y.toInt8.le_toInt
  have h2 := y.toInt8.toInt_lt
  simp only [lo8, fits, Bool.and_eq_true, decide_eq_true_eq, Int32.le_iff_toInt_le, Int8.toInt_toInt32, show (-128 : Int32).toInt = -128 from by decide, show (127 : Int32).toInt = 127 from by decide]
  omega
/-- A' is A but that each place j of lo .. hi - 1 holds f j -/
def Laid (A A' : Cell) (lo hi : Nat) (f : Nat → Value) : Prop := A'.cls = A.cls ∧ A'.vm = A.vm ∧ A'.slots.size = A.slots.size ∧ ∀ i, A'.slots[i]? = if lo ≤ i ∧ i < hi then some (f i) else A.slots[i]?
theorem Laid.zero (A : Cell) (lo : Nat) (f : Nat → Value) : Laid A A lo (lo + 0) f := ⟨rfl, rfl, rfl, fun i => by rw [if_neg (by omega)]⟩
theorem Laid.step {A Ak : Cell} {lo k : Nat} {f : Nat → Value} {v : Value} (h : Laid A Ak lo k f) (hlo : lo ≤ k) (hk : k < Ak.slots.size) (hv : v = f k) : Laid A (Ak.setSlot k v) lo (k + 1) f := by
  refine ⟨h.1, h.2.1, by simpa [Cell.setSlot] using h.2.2.1, fun i => ?_⟩
  by_cases e : k = i
  · subst e; rw [Cell.slots_setSlot_self v hk, if_pos (by omega), hv]
  · rw [Cell.slots_setSlot_ne v e, h.2.2.2 i]
    by_cases q : lo ≤ i ∧ i < k
    · rw [if_pos q, if_pos (by omega)]
    · rw [if_neg q, if_neg (by omega)]
def U16 : String := "java/lang/StringUTF16"
namespace Cmp5
def yN : MethodName := ⟨"java/lang/StringUTF16", "compress", "([CI[BII)I"⟩
abbrev yB : ByteArray := jdk_52_method_21_code
theorem d0 : decode yB 0 = .ok (.iconst 0, 1) := by decide +kernel
theorem d1 : decode yB 1 = .ok (.istore 5, 2) := by decide +kernel
theorem d3 : decode yB 3 = .ok (.iload 5, 2) := by decide +kernel
theorem d5 : decode yB 5 = .ok (.iload 4, 2) := by decide +kernel
theorem d7 : decode yB 7 = .ok (.if_icmp (.ge) 37, 3) := by decide +kernel
theorem d10 : decode yB 10 = .ok (.aload_n 0, 1) := by decide +kernel
theorem d11 : decode yB 11 = .ok (.iload_n 1, 1) := by decide +kernel
theorem d12 : decode yB 12 = .ok (.caload, 1) := by decide +kernel
theorem d13 : decode yB 13 = .ok (.istore 6, 2) := by decide +kernel
theorem d15 : decode yB 15 = .ok (.iload 6, 2) := by decide +kernel
theorem d17 : decode yB 17 = .ok (.sipush 255, 3) := by decide +kernel
theorem d20 : decode yB 20 = .ok (.if_icmp (.le) 6, 3) := by decide +kernel
theorem d26 : decode yB 26 = .ok (.aload_n 2, 1) := by decide +kernel
theorem d27 : decode yB 27 = .ok (.iload_n 3, 1) := by decide +kernel
theorem d28 : decode yB 28 = .ok (.iload 6, 2) := by decide +kernel
theorem d30 : decode yB 30 = .ok (.i2b, 1) := by decide +kernel
theorem d31 : decode yB 31 = .ok (.bastore, 1) := by decide +kernel
theorem d32 : decode yB 32 = .ok (.iinc 1 1, 3) := by decide +kernel
theorem d35 : decode yB 35 = .ok (.iinc 3 1, 3) := by decide +kernel
theorem d38 : decode yB 38 = .ok (.iinc 5 1, 3) := by decide +kernel
theorem d41 : decode yB 41 = .ok (.goto (-38), 3) := by decide +kernel
theorem d44 : decode yB 44 = .ok (.iload 4, 2) := by decide +kernel
theorem d46 : decode yB 46 = .ok (.ireturn, 1) := by decide +kernel
def site : List Cond := []
def tab : Cond := tabOf yN yB 7 (some .int) site
def P (b : Addr) (A : Cell) (d : Addr) (B : Cell) (o q len : Nat) (args : Array Value) (s : State) : Prop := args = #[.ref b, .int (Int32.ofNat o), .ref d, .int (Int32.ofNat q), .int (Int32.ofNat len)] ∧ Ch b A s ∧ Arr .byte d B s ∧ b ≠ d ∧ o + len ≤ A.slots.size ∧ q + len ≤ B.slots.size ∧ ∀ i, i < len → ¬ 255 < cv A (o + i)
def E (b : Addr) (A : Cell) (d : Addr) (B : Cell) (o q len : Nat) (r : Option Value) (s u : State) : Prop := r = some (.int (Int32.ofNat len)) ∧ ∃ B', Put d B' s u ∧ Laid B B' q (q + len) (fun j => Value.int (lo8 (cv A (o + (j - q)))))
/-- no char of the range above 255: len; the places written hold each char's low byte -/
theorem law (l : Launch) (b : Addr) (A : Cell) (d : Addr) (B : Cell) (o q len : Nat) : Law l yN 5 5 0 0 yB 7 (some .int) site (P b A d B o q len) (E b A d B o q len) (copyLocs d q len) 0 0 := by
  refine Law.of_walk (plainFor_of_name (by decide +kernel)) (by decide +kernel) (by decide +kernel) (by decide) (fun _ _ h => by rw [h.1]; rfl) (fun _ U U' hal hh h => ⟨h.1, h.2.1.mv hal hh, h.2.2.1.mv hal hh, h.2.2.2⟩) (fun r U U' V V' h1 hal h2 h => ⟨h.1, h.2.elim fun B' q => ⟨B', q.1.mv h1 h2, q.2⟩⟩) ?_
  intro p e s m args below meth c s₁ X0 hexec hbytes hml hret hlk hnm hown hh0 W hP
  obtain ⟨rfl, hA, hB, hne, l1, l2, hp⟩ := hP
  have c1 : Steps p.tables e below (s₁.setTop (entryFrame m #[.ref b, .int (Int32.ofNat o), .ref d, .int (Int32.ofNat q), .int (Int32.ofNat len)] 7)) (s₁.setTop (mkF m 0 #[.val (.ref b), .val (.int (Int32.ofNat o)), .val (.ref d), .val (.int (Int32.ofNat q)), .val (.int (Int32.ofNat len)), .unset, .unset] [])) := entry rfl
  have hA0 := hA.1.mv X0.warmed.alike hh0
  have hB0 := hB.mv X0.warmed.alike hh0
  have a31 := hA.1.2.2.2
  have c2 : Steps p.tables e below (s₁.setTop (entryFrame m #[.ref b, .int (Int32.ofNat o), .ref d, .int (Int32.ofNat q), .int (Int32.ofNat len)] 7)) (s₁.setTop (mkF m 3 #[.val (.ref b), .val (.int (Int32.ofNat o)), .val (.ref d), .val (.int (Int32.ofNat q)), .val (.int (Int32.ofNat len)), .val (.int 0), .unset] [])) := c1.trans (by
    refine iconstV X0.here hexec rfl 0 (hb hbytes d0) (by decide) ?_
    refine XS.istore X0.here hexec rfl (hb hbytes d1) rfl rfl ?_
    exact Steps.refl _)
  have loop : ∀ (r i : Nat), i + r = len → ∀ (z : Slot), (z = .unset ∨ ∃ w, z = .val w ∧ w.category = 1) → ∀ (Tl : State) (Bk : Cell), Stand p l e { frames := 0, locals := 0, cells := 0, slots := 0 } s m #[.ref b, .int (Int32.ofNat o), .ref d, .int (Int32.ofNat q), .int (Int32.ofNat len)] below meth c Tl ([] ++ copyLocs d q i) 0 0 → Put d Bk s₁ Tl → Laid B Bk q (q + i) (fun j => Value.int (lo8 (cv A (o + (j - q))))) →
      Steps p.tables e below (s₁.setTop (entryFrame m #[.ref b, .int (Int32.ofNat o), .ref d, .int (Int32.ofNat q), .int (Int32.ofNat len)] 7)) (Tl.setTop (mkF m 3 #[.val (.ref b), .val (.int (Int32.ofNat (o + i))), .val (.ref d), .val (.int (Int32.ofNat (q + i))), .val (.int (Int32.ofNat len)), .val (.int (Int32.ofNat i)), z] [])) → ∃ (T' : State) (B' : Cell) (z' : Slot), Stand p l e { frames := 0, locals := 0, cells := 0, slots := 0 } s m #[.ref b, .int (Int32.ofNat o), .ref d, .int (Int32.ofNat q), .int (Int32.ofNat len)] below meth c T' ([] ++ copyLocs d q len) 0 0 ∧ Put d B' s₁ T' ∧ Laid B B' q (q + len) (fun j => Value.int (lo8 (cv A (o + (j - q))))) ∧
      Steps p.tables e below (s₁.setTop (entryFrame m #[.ref b, .int (Int32.ofNat o), .ref d, .int (Int32.ofNat q), .int (Int32.ofNat len)] 7)) (T'.setTop (mkF m 3 #[.val (.ref b), .val (.int (Int32.ofNat (o + len))), .val (.ref d), .val (.int (Int32.ofNat (q + len))), .val (.int (Int32.ofNat len)), .val (.int (Int32.ofNat len)), z'] [])) := by
    intro r
    induction r with
    | zero =>
      intro i hi z hz Tl Bk Xl pl fl cl
      have hil : i = len := by omega
      rw [hil] at Xl fl cl
      exact ⟨Tl, Bk, z, Xl, pl, fl, cl⟩
    | succ r ih =>
      intro i hi z hz Tl Bk Xl pl fl cl
      have all := X0.warmed.alike.symm.trans Xl.warmed.alike
      have hAl := hA0.keep all (pl.other hne hA0.1)
      have hBk := hB0.like all pl.1 fl.1 fl.2.1 fl.2.2.1
      have hlt : q + i < Bk.slots.size := by rw [fl.2.2.1]; omega
      have c3 : Steps p.tables e below (s₁.setTop (entryFrame m #[.ref b, .int (Int32.ofNat o), .ref d, .int (Int32.ofNat q), .int (Int32.ofNat len)] 7)) (Tl.setTop (mkF m 12 #[.val (.ref b), .val (.int (Int32.ofNat (o + i))), .val (.ref d), .val (.int (Int32.ofNat (q + i))), .val (.int (Int32.ofNat len)), .val (.int (Int32.ofNat i)), z] [.int (Int32.ofNat (o + i)), .ref b])) := cl.trans (by
        refine XS.iload Xl.here hexec rfl (hb hbytes d3) rfl ?_
        refine XS.iload Xl.here hexec rfl (hb hbytes d5) rfl ?_
        refine XS.icmpNo Xl.here hexec rfl (hb hbytes d7) rfl (ii_ge_f (lt32 (by omega) (by omega))) ?_
        refine XS.aloadN Xl.here hexec rfl (hb hbytes d10) rfl rfl ?_
        refine XS.iloadN Xl.here hexec rfl (hb hbytes d11) rfl ?_
        exact Steps.refl _)
      have c4 : Steps p.tables e below (s₁.setTop (entryFrame m #[.ref b, .int (Int32.ofNat o), .ref d, .int (Int32.ofNat q), .int (Int32.ofNat len)] 7)) (Tl.setTop (mkF m 13 #[.val (.ref b), .val (.int (Int32.ofNat (o + i))), .val (.ref d), .val (.int (Int32.ofNat (q + i))), .val (.int (Int32.ofNat len)), .val (.int (Int32.ofNat i)), z] [.int (cv A (o + i))])) := c3.trans (by
        refine Xl.aget hexec hAl rfl (hA.get (i := o + i) (by omega)) rfl rfl (hb hbytes d12) ?_
        exact Steps.refl _)
      have c5 : Steps p.tables e below (s₁.setTop (entryFrame m #[.ref b, .int (Int32.ofNat o), .ref d, .int (Int32.ofNat q), .int (Int32.ofNat len)] 7)) (Tl.setTop (mkF m 15 #[.val (.ref b), .val (.int (Int32.ofNat (o + i))), .val (.ref d), .val (.int (Int32.ofNat (q + i))), .val (.int (Int32.ofNat len)), .val (.int (Int32.ofNat i)), .val (.int (cv A (o + i)))] [])) := c4.trans (by
        refine XS.istoreS Xl.here hexec rfl (hb hbytes d13) rfl rfl hz ?_
        exact Steps.refl _)
      have c6 : Steps p.tables e below (s₁.setTop (entryFrame m #[.ref b, .int (Int32.ofNat o), .ref d, .int (Int32.ofNat q), .int (Int32.ofNat len)] 7)) (Tl.setTop (mkF m 31 #[.val (.ref b), .val (.int (Int32.ofNat (o + i))), .val (.ref d), .val (.int (Int32.ofNat (q + i))), .val (.int (Int32.ofNat len)), .val (.int (Int32.ofNat i)), .val (.int (cv A (o + i)))] [.int (lo8 (cv A (o + i))), .int (Int32.ofNat (q + i)), .ref d])) := c5.trans (by
        refine XS.iload Xl.here hexec rfl (hb hbytes d15) rfl ?_
        refine sipushV Xl.here hexec rfl 255 (hb hbytes d17) (by decide) ?_
        refine XS.icmpYes Xl.here hexec rfl (pc0 := 20) rfl (hb hbytes d20) rfl (ii_le_t (hp i (by omega))) (by decide) rfl ?_
        refine XS.aloadN Xl.here hexec rfl (hb hbytes d26) rfl rfl ?_
        refine XS.iloadN Xl.here hexec rfl (hb hbytes d27) rfl ?_
        refine XS.iload Xl.here hexec rfl (hb hbytes d28) rfl ?_
        refine i2b Xl.here hexec rfl (hb hbytes d30) rfl ?_
        exact Steps.refl _)
      obtain ⟨T7, X7, p7, st7⟩ := Xl.aput hexec hBk rfl hlt rfl (fits_lo8 (cv A (o + i))) (g := (mkF m 31 #[.val (.ref b), .val (.int (Int32.ofNat (o + i))), .val (.ref d), .val (.int (Int32.ofNat (q + i))), .val (.int (Int32.ofNat len)), .val (.int (Int32.ofNat i)), .val (.int (cv A (o + i)))] [.int (lo8 (cv A (o + i))), .int (Int32.ofNat (q + i)), .ref d])) rfl (rest := []) rfl (hb hbytes d31)
      have c8 : Steps p.tables e below (s₁.setTop (entryFrame m #[.ref b, .int (Int32.ofNat o), .ref d, .int (Int32.ofNat q), .int (Int32.ofNat len)] 7)) (T7.setTop (mkF m 32 #[.val (.ref b), .val (.int (Int32.ofNat (o + i))), .val (.ref d), .val (.int (Int32.ofNat (q + i))), .val (.int (Int32.ofNat len)), .val (.int (Int32.ofNat i)), .val (.int (cv A (o + i)))] [])) := c6.trans (st7 _ (Steps.refl _))
      have c9 : Steps p.tables e below (s₁.setTop (entryFrame m #[.ref b, .int (Int32.ofNat o), .ref d, .int (Int32.ofNat q), .int (Int32.ofNat len)] 7)) (T7.setTop (mkF m 3 #[.val (.ref b), .val (.int (Int32.ofNat (o + i) + 1)), .val (.ref d), .val (.int (Int32.ofNat (q + i) + 1)), .val (.int (Int32.ofNat len)), .val (.int (Int32.ofNat i + 1)), .val (.int (cv A (o + i)))] [])) := c8.trans (by
        refine iincV X7.here hexec rfl 1 (hb hbytes d32) (by decide) rfl rfl ?_
        refine iincV X7.here hexec rfl 1 (hb hbytes d35) (by decide) rfl rfl ?_
        refine iincV X7.here hexec rfl 1 (hb hbytes d38) (by decide) rfl rfl ?_
        refine XS.goto X7.here hexec rfl (pc0 := 41) rfl (hb hbytes d41) (by decide) rfl ?_
        exact Steps.refl _)
      have c10 : Steps p.tables e below (s₁.setTop (entryFrame m #[.ref b, .int (Int32.ofNat o), .ref d, .int (Int32.ofNat q), .int (Int32.ofNat len)] 7)) (T7.setTop (mkF m 3 #[.val (.ref b), .val (.int (Int32.ofNat (o + (i + 1)))), .val (.ref d), .val (.int (Int32.ofNat (q + (i + 1)))), .val (.int (Int32.ofNat len)), .val (.int (Int32.ofNat (i + 1))), .val (.int (cv A (o + i)))] [])) := by
        have := c9
        rw [succ32, succ32, succ32] at this
        exact this
      exact ih (i + 1) (by omega) _ (Or.inr ⟨_, rfl, rfl⟩) T7 _ (by rw [copyLocs_step, ← List.append_assoc]; exact X7) (pl.trans p7) (fl.step (by omega) hlt (by simp)) c10
  obtain ⟨T9, B9, z9, X9, p9, f9, g9⟩ := loop len 0 (by omega) .unset (Or.inl rfl) s₁ B (by simpa [copyLocs] using X0) ⟨hB0.1, fun _ _ => rfl, rfl⟩ (Laid.zero _ _ _) c2
  have c11 : Steps p.tables e below (s₁.setTop (entryFrame m #[.ref b, .int (Int32.ofNat o), .ref d, .int (Int32.ofNat q), .int (Int32.ofNat len)] 7)) (T9.setTop (mkF m 46 #[.val (.ref b), .val (.int (Int32.ofNat (o + len))), .val (.ref d), .val (.int (Int32.ofNat (q + len))), .val (.int (Int32.ofNat len)), .val (.int (Int32.ofNat len)), z9] [.int (Int32.ofNat len)])) := g9.trans (by
    refine XS.iload X9.here hexec rfl (hb hbytes d3) rfl ?_
    refine XS.iload X9.here hexec rfl (hb hbytes d5) rfl ?_
    refine XS.icmpYes X9.here hexec rfl (pc0 := 7) rfl (hb hbytes d7) rfl (ii_ge_t (nlt32 (by omega) (Nat.le_refl _))) (by decide) rfl ?_
    refine XS.iload X9.here hexec rfl (hb hbytes d44) rfl ?_
    exact Steps.refl _)
  exact ⟨T9, some (.int (Int32.ofNat len)), _, _, _, X9, by simp, rfl, rfl, (fun h => by cases h), ⟨rfl, B9, p9.from hh0, f9⟩, fun fs hl => c11.trans (X9.ireturnOut hexec hret rfl (Or.inl rfl) (hb hbytes d46) hl)⟩
end Cmp5
namespace Cmp3
def yN : MethodName := ⟨"java/lang/StringUTF16", "compress", "([CII)[B"⟩
abbrev yB : ByteArray := jdk_52_method_16_code
theorem d0 : decode yB 0 = .ok (.iload_n 2, 1) := by decide +kernel
theorem d1 : decode yB 1 = .ok (.newarray .byte, 2) := by decide +kernel
theorem d3 : decode yB 3 = .ok (.astore_n 3, 1) := by decide +kernel
theorem d4 : decode yB 4 = .ok (.aload_n 0, 1) := by decide +kernel
theorem d5 : decode yB 5 = .ok (.iload_n 1, 1) := by decide +kernel
theorem d6 : decode yB 6 = .ok (.aload_n 3, 1) := by decide +kernel
theorem d7 : decode yB 7 = .ok (.iconst 0, 1) := by decide +kernel
theorem d8 : decode yB 8 = .ok (.iload_n 2, 1) := by decide +kernel
theorem d9 : decode yB 9 = .ok (.invokestatic 115, 3) := by decide +kernel
theorem d12 : decode yB 12 = .ok (.istore 4, 2) := by decide +kernel
theorem d14 : decode yB 14 = .ok (.iload 4, 2) := by decide +kernel
theorem d16 : decode yB 16 = .ok (.iload_n 2, 1) := by decide +kernel
theorem d17 : decode yB 17 = .ok (.if_icmp (.eq) 40, 3) := by decide +kernel
theorem d57 : decode yB 57 = .ok (.aload_n 3, 1) := by decide +kernel
theorem d58 : decode yB 58 = .ok (.areturn, 1) := by decide +kernel
def site : List Cond := [.arrayClass .byte, Cmp5.tab] ++ staticW U16 115 Cmp5.yN
def tab : Cond := tabOf yN yB 6 (some (.array .byte)) site
def P (b : Addr) (A : Cell) (o len : Nat) (args : Array Value) (s : State) : Prop := args = #[.ref b, .int (Int32.ofNat o), .int (Int32.ofNat len)] ∧ Ch b A s ∧ o + len ≤ A.slots.size ∧ len ≤ 536870912 ∧ ∀ i, i < len → ¬ 255 < cv A (o + i)
def E (b : Addr) (A : Cell) (o len : Nat) (r : Option Value) (s u : State) : Prop := NewArr .byte "[B" len (fun j => .int (lo8 (cv A (o + j)))) r s u ∧ u.heap.size = s.heap.size + 1
/-- no char of the range above 255: a new byte[] of their low bytes -/
theorem law (l : Launch) (b : Addr) (A : Cell) (o len : Nat) : Law l yN 3 3 1 18 yB 6 (some (.array .byte)) site (P b A o len) (E b A o len) [] 1 len := by
  refine Law.of_walk (plainFor_of_name (by decide +kernel)) (by decide +kernel) (by decide +kernel) (by decide) (fun _ _ h => by rw [h.1]; rfl) (fun _ U U' hal hh h => ⟨h.1, h.2.1.mv hal hh, h.2.2⟩) (fun r U U' V V' h1 hal h2 h => ⟨NewArr.mv r U U' V V' h1 hal h2 h.1, by rw [h1, h2]; exact h.2⟩) ?_
  intro p e s m args below meth c s₁ X0 hexec hbytes hml hret hlk hnm hown hh0 W hP
  obtain ⟨rfl, hA, l1, l2, hp⟩ := hP
  have a31 := hA.1.2.2.2
  have c1 : Steps p.tables e below (s₁.setTop (entryFrame m #[.ref b, .int (Int32.ofNat o), .int (Int32.ofNat len)] 6)) (s₁.setTop (mkF m 0 #[.val (.ref b), .val (.int (Int32.ofNat o)), .val (.int (Int32.ofNat len)), .unset, .unset, .unset] [])) := entry rfl
  have c2 : Steps p.tables e below (s₁.setTop (entryFrame m #[.ref b, .int (Int32.ofNat o), .int (Int32.ofNat len)] 6)) (s₁.setTop (mkF m 1 #[.val (.ref b), .val (.int (Int32.ofNat o)), .val (.int (Int32.ofNat len)), .unset, .unset, .unset] [.int (Int32.ofNat len)])) := c1.trans (by
    refine XS.iloadN X0.here hexec rfl (hb hbytes d0) rfl ?_
    exact Steps.refl _)
  obtain ⟨T3, B3, X3, ba3, bs3, bv3, bh3, bf3, st3⟩ := X0.anew hexec (atype := .byte) (wk W (.arrayClass .byte)) rfl (by show len * 1 ≤ _; omega) (by omega) (g := (mkF m 1 #[.val (.ref b), .val (.int (Int32.ofNat o)), .val (.int (Int32.ofNat len)), .unset, .unset, .unset] [.int (Int32.ofNat len)])) rfl (hb hbytes d1) (rest := []) rfl (Nat.le_refl _) (by show 0 + len ≤ len; omega)
  rw [hh0] at ba3 st3
  have kp3 : XT.Kept s T3 := (XT.Kept.of_eq hh0).push bh3
  have hA3 := hA.keep X3.warmed.alike (kp3 _ _ hA.1.1)
  have hne : b ≠ s.heap.size := hA.1.ne
  have c4 : Steps p.tables e below (s₁.setTop (entryFrame m #[.ref b, .int (Int32.ofNat o), .int (Int32.ofNat len)] 6)) (T3.setTop (mkF m 3 #[.val (.ref b), .val (.int (Int32.ofNat o)), .val (.int (Int32.ofNat len)), .unset, .unset, .unset] [.ref s.heap.size])) := c2.trans (st3 _ (Steps.refl _))
  have c5 : Steps p.tables e below (s₁.setTop (entryFrame m #[.ref b, .int (Int32.ofNat o), .int (Int32.ofNat len)] 6)) (T3.setTop (mkF m 9 #[.val (.ref b), .val (.int (Int32.ofNat o)), .val (.int (Int32.ofNat len)), .val (.ref s.heap.size), .unset, .unset] [.int (Int32.ofNat len), .int 0, .ref s.heap.size, .int (Int32.ofNat o), .ref b])) := c4.trans (by
    refine XS.astoreN X3.here hexec rfl (hb hbytes d3) rfl rfl rfl ?_
    refine XS.aloadN X3.here hexec rfl (hb hbytes d4) rfl rfl ?_
    refine XS.iloadN X3.here hexec rfl (hb hbytes d5) rfl ?_
    refine XS.aloadN X3.here hexec rfl (hb hbytes d6) rfl rfl ?_
    refine iconstV X3.here hexec rfl 0 (hb hbytes d7) (by decide) ?_
    refine XS.iloadN X3.here hexec rfl (hb hbytes d8) rfl ?_
    exact Steps.refl _)
  obtain ⟨v6, T6, X6, E6, g6⟩ := X3.callS hexec (Cmp5.law l b A s.heap.size B3 o 0 len) hown (wks W (staticW U16 115 Cmp5.yN)) (wk W Cmp5.tab) (W := 0) (Nat.le_of_ble_eq_true rfl) (Nat.le_of_ble_eq_true rfl) (Nat.le_refl _) (by show 0 + len + 0 ≤ len; omega) (g := (mkF m 9 #[.val (.ref b), .val (.int (Int32.ofNat o)), .val (.int (Int32.ofNat len)), .val (.ref s.heap.size), .unset, .unset] [.int (Int32.ofNat len), .int (Int32.ofNat 0), .ref s.heap.size, .int (Int32.ofNat o), .ref b])) rfl (by rw [hml]; rfl) c5 (argsL := [.ref b, .int (Int32.ofNat o), .ref s.heap.size, .int (Int32.ofNat 0), .int (Int32.ofNat len)]) (rest := []) rfl rfl (by show 2 * 0 + 0 ≤ _; decide) (hb hbytes d9) (⟨rfl, hA3, ba3, hne, l1, by rw [bs3]; simp, hp⟩)
  obtain ⟨rfl, B6, p6, f6⟩ := E6
  have c7 : Steps p.tables e below (s₁.setTop (entryFrame m #[.ref b, .int (Int32.ofNat o), .int (Int32.ofNat len)] 6)) (T6.setTop (mkF m 12 #[.val (.ref b), .val (.int (Int32.ofNat o)), .val (.int (Int32.ofNat len)), .val (.ref s.heap.size), .unset, .unset] [.int (Int32.ofNat len)])) := g6
  have c8 : Steps p.tables e below (s₁.setTop (entryFrame m #[.ref b, .int (Int32.ofNat o), .int (Int32.ofNat len)] 6)) (T6.setTop (mkF m 58 #[.val (.ref b), .val (.int (Int32.ofNat o)), .val (.int (Int32.ofNat len)), .val (.ref s.heap.size), .val (.int (Int32.ofNat len)), .unset] [.ref s.heap.size])) := c7.trans (by
    refine XS.istore X6.here hexec rfl (hb hbytes d12) rfl rfl ?_
    refine XS.iload X6.here hexec rfl (hb hbytes d14) rfl ?_
    refine XS.iloadN X6.here hexec rfl (hb hbytes d16) rfl ?_
    refine XS.icmpYes X6.here hexec rfl (pc0 := 17) rfl (hb hbytes d17) rfl (ii_eq_t rfl) (by decide) rfl ?_
    refine XS.aloadN X6.here hexec rfl (hb hbytes d57) rfl rfl ?_
    exact Steps.refl _)
  have X8 := X6.wide (L' := []) (cells' := 1) (slots' := len) (fun x hx hlt => by
    simp only [List.nil_append, copyLocs, List.mem_map, List.mem_range] at hx
    obtain ⟨i, -, rfl⟩ := hx
    exact absurd hlt (Nat.lt_irrefl _)) (Nat.le_refl _) (by omega)
  exact ⟨T6, some (.ref s.heap.size), _, _, _, X8, rfl, rfl, rfl, (fun h => by cases h), ⟨⟨rfl, B6, ba3.like (X3.warmed.alike.symm.trans X6.warmed.alike) p6.1 f6.1 f6.2.1 f6.2.2.1, f6.2.1.trans bv3, by rw [X6.warmed.alike.findClass, f6.1]; exact bf3, by rw [f6.2.2.1, bs3]; simp, fun j hj => by rw [f6.2.2.2 j, if_pos (by omega)]; rfl, kp3.put p6 (Nat.le_refl _)⟩, by rw [p6.2.2, bh3, hh0]; simp⟩, fun fs hl => c8.trans (X8.areturnOut hexec rfl hret rfl (hb hbytes d58) hl)⟩
end Cmp3
namespace CodL
def yN : MethodName := ⟨"java/lang/StringUTF16", "coderFromArrayLen", "([BI)B"⟩
abbrev yB : ByteArray := jdk_52_method_15_code
theorem d0 : decode yB 0 = .ok (.iload_n 1, 1) := by decide +kernel
theorem d1 : decode yB 1 = .ok (.aload_n 0, 1) := by decide +kernel
theorem d2 : decode yB 2 = .ok (.arraylength, 1) := by decide +kernel
theorem d3 : decode yB 3 = .ok (.isub, 1) := by decide +kernel
theorem d4 : decode yB 4 = .ok (.bipush 31, 2) := by decide +kernel
theorem d6 : decode yB 6 = .ok (.iushr, 1) := by decide +kernel
theorem d7 : decode yB 7 = .ok (.i2b, 1) := by decide +kernel
theorem d8 : decode yB 8 = .ok (.ireturn, 1) := by decide +kernel
def site : List Cond := []
def tab : Cond := tabOf yN yB 2 (some .byte) site
def P (d : Addr) (B : Cell) (args : Array Value) (s : State) : Prop := args = #[.ref d, .int (Int32.ofNat B.slots.size)] ∧ Arr .byte d B s
def E (r : Option Value) (s u : State) : Prop := XT.PureE (some (.int 0)) r s u
/-- an array as long as the number of chars: LATIN1 -/
theorem law (l : Launch) (d : Addr) (B : Cell) : Law l yN 2 2 0 0 yB 2 (some .byte) site (P d B) E [] 0 0 := by
  refine Law.of_walk (plainFor_of_name (by decide +kernel)) (by decide +kernel) (by decide +kernel) (by decide) (fun _ _ h => by rw [h.1]; rfl) (fun _ U U' hal hh h => ⟨h.1, h.2.mv hal hh⟩) (fun r U U' V V' h1 hal h2 h => XT.PureE.mv r U U' V V' h1 hal h2 h) ?_
  intro p e s m args below meth c s₁ X0 hexec hbytes hml hret hlk hnm hown hh0 W hP
  obtain ⟨rfl, hB⟩ := hP
  have hB0 := hB.mv X0.warmed.alike hh0
  have c1 : Steps p.tables e below (s₁.setTop (entryFrame m #[.ref d, .int (Int32.ofNat B.slots.size)] 2)) (s₁.setTop (mkF m 0 #[.val (.ref d), .val (.int (Int32.ofNat B.slots.size))] [])) := entry rfl
  have c2 : Steps p.tables e below (s₁.setTop (entryFrame m #[.ref d, .int (Int32.ofNat B.slots.size)] 2)) (s₁.setTop (mkF m 2 #[.val (.ref d), .val (.int (Int32.ofNat B.slots.size))] [.ref d, .int (Int32.ofNat B.slots.size)])) := c1.trans (by
    refine XS.iloadN X0.here hexec rfl (hb hbytes d0) rfl ?_
    refine XS.aloadN X0.here hexec rfl (hb hbytes d1) rfl rfl ?_
    exact Steps.refl _)
  have c3 : Steps p.tables e below (s₁.setTop (entryFrame m #[.ref d, .int (Int32.ofNat B.slots.size)] 2)) (s₁.setTop (mkF m 8 #[.val (.ref d), .val (.int (Int32.ofNat B.slots.size))] [.int (lo8 (ushr (Int32.ofNat B.slots.size - Int32.ofNat B.slots.size) 31))])) := c2.trans (by
    refine X0.alen hexec hB0 rfl rfl (hb hbytes d2) ?_
    refine XS.isub X0.here hexec rfl (hb hbytes d3) rfl ?_
    refine bipushV X0.here hexec rfl 31 (hb hbytes d4) (by decide) ?_
    refine iushr X0.here hexec rfl (hb hbytes d6) rfl ?_
    refine i2b X0.here hexec rfl (hb hbytes d7) rfl ?_
    exact Steps.refl _)
  have e0 : lo8 (ushr (Int32.ofNat B.slots.size - Int32.ofNat B.slots.size) 31) = 0 := by rw [Int32.sub_self]; decide
  rw [e0] at c3
  exact ⟨s₁, some (.int 0), _, _, _, X0, rfl, rfl, rfl, (fun h => by cases h), ⟨rfl, hh0⟩, fun fs hl => c3.trans (X0.ireturnOut hexec hret rfl (Or.inr (Or.inr (Or.inl rfl))) (hb hbytes d8) hl)⟩
end CodL
/-- the String at a is Latin-1 over a new byte[] (the heap's one new cell): the low bytes of the len chars of A from o on; every cell but a is kept -/
def Got (a : Addr) (D : Cell) (fV fC : Field) (A : Cell) (o len : Nat) (r : Option Value) (s u : State) : Prop := r = none ∧ ∃ D' V : Cell, Blank "java/lang/String" a D' u ∧ Same D D' [fV.slot, fC.slot] ∧ D'.slots[fV.slot]? = some (.ref s.heap.size) ∧ D'.slots[fC.slot]? = some (.int 0) ∧ Arr .byte s.heap.size V u ∧ V.vm = .none ∧ u.vm.findClass "[B" = some V.cls ∧ V.slots.size = len ∧ (∀ j, j < len → V.slots[j]? = some (.int (lo8 (cv A (o + j))))) ∧ (∀ (y : Addr) (c : Cell), y ≠ a → s.heap[y]? = some c → u.heap[y]? = some c) ∧ u.heap.size = s.heap.size + 1
theorem Got.mv {a : Addr} {D A : Cell} {fV fC : Field} {o len : Nat} : ∀ r (U U' V V' : State), U'.heap = U.heap → V.vm.Alike V'.vm → V'.heap = V.heap → Got a D fV fC A o len r U V → Got a D fV fC A o len r U' V' :=
  fun r U U' V V' h1 hal h2 ⟨e0, D', X, a1, a2, a3, a4, a5, a6, a7, a8, a9, a10, a11⟩ => ⟨e0, D', X, a1.mv hal h2, a2, by rw [h1]; exact a3, a4, by rw [h1]; exact a5.mv hal h2, a6, by rw [hal.findClass]; exact a7, a8, a9, by rw [h1, h2]; exact a10, by rw [h1, h2]; exact a11⟩
namespace New4
def yN : MethodName := ⟨"java/lang/String", "<init>", "([CIILjava/lang/Void;)V"⟩
abbrev yB : ByteArray := jdk_42_method_149_code
theorem d0 : decode yB 0 = .ok (.aload_n 0, 1) := by decide +kernel
theorem d1 : decode yB 1 = .ok (.invokespecial 1, 3) := by decide +kernel
theorem d4 : decode yB 4 = .ok (.iload_n 3, 1) := by decide +kernel
theorem d5 : decode yB 5 = .ok (.ifCond (.ne) 22, 3) := by decide +kernel
theorem d27 : decode yB 27 = .ok (.getstatic 38, 3) := by decide +kernel
theorem d30 : decode yB 30 = .ok (.ifCond (.eq) 28, 3) := by decide +kernel
theorem d33 : decode yB 33 = .ok (.aload_n 1, 1) := by decide +kernel
theorem d34 : decode yB 34 = .ok (.iload_n 2, 1) := by decide +kernel
theorem d35 : decode yB 35 = .ok (.iload_n 3, 1) := by decide +kernel
theorem d36 : decode yB 36 = .ok (.invokestatic 177, 3) := by decide +kernel
theorem d39 : decode yB 39 = .ok (.astore 5, 2) := by decide +kernel
theorem d41 : decode yB 41 = .ok (.aload_n 0, 1) := by decide +kernel
theorem d42 : decode yB 42 = .ok (.aload 5, 2) := by decide +kernel
theorem d44 : decode yB 44 = .ok (.iload_n 3, 1) := by decide +kernel
theorem d45 : decode yB 45 = .ok (.invokestatic 47, 3) := by decide +kernel
theorem d48 : decode yB 48 = .ok (.putfield 15, 3) := by decide +kernel
theorem d51 : decode yB 51 = .ok (.aload_n 0, 1) := by decide +kernel
theorem d52 : decode yB 52 = .ok (.aload 5, 2) := by decide +kernel
theorem d54 : decode yB 54 = .ok (.putfield 9, 3) := by decide +kernel
theorem d57 : decode yB 57 = .ok (.return_, 1) := by decide +kernel
def site : List Cond := [.fieldLink "java/lang/String" 38 "java/lang/String" "COMPACT_STRINGS" "Z", Cmp3.tab, CodL.tab, .laysFinal "java/lang/String" "java/lang/String" "value" "[B", .fieldLink "java/lang/String" 9 "java/lang/String" "value" "[B", .laysFinal "java/lang/String" "java/lang/String" "coder" "B", .fieldLink "java/lang/String" 15 "java/lang/String" "coder" "B"] ++ objW "java/lang/String" 1 ++ staticW "java/lang/String" 177 Cmp3.yN ++ staticW "java/lang/String" 47 CodL.yN
def tab : Cond := tabOf yN yB 6 none site
def P (a : Addr) (D : Cell) (fV fC : Field) (b : Addr) (A : Cell) (z : Int32) (o len : Nat) (args : Array Value) (s : State) : Prop := args = #[.ref a, .ref b, .int (Int32.ofNat o), .int (Int32.ofNat len), .null] ∧ Blank "java/lang/String" a D s ∧ Found "java/lang/String" "value" "[B" fV s ∧ Found "java/lang/String" "coder" "B" fC s ∧ Ch b A s ∧ StaticIs s "java/lang/String" "COMPACT_STRINGS" "Z" (.int z) ∧ ¬ z = 0 ∧ 0 < len ∧ o + len ≤ A.slots.size ∧ len ≤ 536870912 ∧ ∀ i, i < len → ¬ 255 < cv A (o + i)
def E (a : Addr) (D : Cell) (fV fC : Field) (A : Cell) (o len : Nat) (r : Option Value) (s u : State) : Prop := Got a D fV fC A o len r s u
/-- len > 0, no char of the range above 255: a Latin-1 String of their low bytes -/
theorem law (l : Launch) (a : Addr) (D : Cell) (fV fC : Field) (b : Addr) (A : Cell) (z : Int32) (o len : Nat) : Law l yN 5 4 2 35 yB 6 none site (P a D fV fC b A z o len) (E a D fV fC A o len) [⟨a, fC.slot⟩, ⟨a, fV.slot⟩] 1 len := by
  refine Law.of_walk (plainFor_of_name (by decide +kernel)) (by decide +kernel) (by decide +kernel) (by decide) (fun _ _ h => by rw [h.1]; rfl) (fun _ U U' hal hh h => ⟨h.1, h.2.1.mv hal hh, h.2.2.1.al hal, h.2.2.2.1.al hal, h.2.2.2.2.1.mv hal hh, h.2.2.2.2.2.1.there hal hh, h.2.2.2.2.2.2⟩) (fun r U U' V V' h1 hal h2 h => Got.mv r U U' V V' h1 hal h2 h) ?_
  intro p e s m args below meth c s₁ X0 hexec hbytes hml hret hlk hnm hown hh0 W hP
  obtain ⟨rfl, hB, f1, f2, hA, s1, hz, l0, l1, l2, hp⟩ := hP
  have a31 := hA.1.2.2.2
  have c1 : Steps p.tables e below (s₁.setTop (entryFrame m #[.ref a, .ref b, .int (Int32.ofNat o), .int (Int32.ofNat len), .null] 6)) (s₁.setTop (mkF m 0 #[.val (.ref a), .val (.ref b), .val (.int (Int32.ofNat o)), .val (.int (Int32.ofNat len)), .val .null, .unset] [])) := entry rfl
  have c2 : Steps p.tables e below (s₁.setTop (entryFrame m #[.ref a, .ref b, .int (Int32.ofNat o), .int (Int32.ofNat len), .null] 6)) (s₁.setTop (mkF m 1 #[.val (.ref a), .val (.ref b), .val (.int (Int32.ofNat o)), .val (.int (Int32.ofNat len)), .val .null, .unset] [.ref a])) := c1.trans (by
    refine XS.aloadN X0.here hexec rfl (hb hbytes d0) rfl rfl ?_
    exact Steps.refl _)
  obtain ⟨T3, X3, q3, st3⟩ := X0.oinit hexec hown (wks W (objW "java/lang/String" 1)) (g := (mkF m 1 #[.val (.ref a), .val (.ref b), .val (.int (Int32.ofNat o)), .val (.int (Int32.ofNat len)), .val .null, .unset] [.ref a])) rfl (by rw [hml]; rfl) (rest := []) rfl (hb hbytes d1) (W := 0) (by show 2 * 0 + 0 ≤ _; decide) (Nat.le_of_ble_eq_true rfl) (Nat.le_of_ble_eq_true rfl)
  have hh3 := q3.trans hh0
  have c4 : Steps p.tables e below (s₁.setTop (entryFrame m #[.ref a, .ref b, .int (Int32.ofNat o), .int (Int32.ofNat len), .null] 6)) (T3.setTop (mkF m 27 #[.val (.ref a), .val (.ref b), .val (.int (Int32.ofNat o)), .val (.int (Int32.ofNat len)), .val .null, .unset] [])) := (c2.trans (st3 _ (Steps.refl _))).trans (by
    refine XS.iloadN X3.here hexec rfl (hb hbytes d4) rfl ?_
    refine XS.ifYes X3.here hexec rfl (pc0 := 5) rfl (hb hbytes d5) rfl (i0_ne_t (nz32 (by omega) l0)) (by decide) rfl ?_
    exact Steps.refl _)
  obtain ⟨T5, X5, q5, st5⟩ := X3.sget hexec hown (wk W (.fieldLink "java/lang/String" 38 "java/lang/String" "COMPACT_STRINGS" "Z")) s1 (fun _ _ h => by rw [hh3]; exact h) (g := (mkF m 27 #[.val (.ref a), .val (.ref b), .val (.int (Int32.ofNat o)), .val (.int (Int32.ofNat len)), .val .null, .unset] [])) rfl (hb hbytes d27)
  have hh5 := q5.trans hh3
  have c6 : Steps p.tables e below (s₁.setTop (entryFrame m #[.ref a, .ref b, .int (Int32.ofNat o), .int (Int32.ofNat len), .null] 6)) (T5.setTop (mkF m 30 #[.val (.ref a), .val (.ref b), .val (.int (Int32.ofNat o)), .val (.int (Int32.ofNat len)), .val .null, .unset] [.int z])) := c4.trans (st5 _ (Steps.refl _))
  have c7 : Steps p.tables e below (s₁.setTop (entryFrame m #[.ref a, .ref b, .int (Int32.ofNat o), .int (Int32.ofNat len), .null] 6)) (T5.setTop (mkF m 36 #[.val (.ref a), .val (.ref b), .val (.int (Int32.ofNat o)), .val (.int (Int32.ofNat len)), .val .null, .unset] [.int (Int32.ofNat len), .int (Int32.ofNat o), .ref b])) := c6.trans (by
    refine XS.ifNo X5.here hexec rfl (hb hbytes d30) rfl (i0_eq_f hz) ?_
    refine XS.aloadN X5.here hexec rfl (hb hbytes d33) rfl rfl ?_
    refine XS.iloadN X5.here hexec rfl (hb hbytes d34) rfl ?_
    refine XS.iloadN X5.here hexec rfl (hb hbytes d35) rfl ?_
    exact Steps.refl _)
  obtain ⟨v8, T8, X8, E8, g8⟩ := X5.callS hexec (Cmp3.law l b A o len) hown (wks W (staticW "java/lang/String" 177 Cmp3.yN)) (wk W Cmp3.tab) (W := 0) (Nat.le_of_ble_eq_true rfl) (Nat.le_of_ble_eq_true rfl) (Nat.le_refl _) (by show 0 + len ≤ len; omega) (g := (mkF m 36 #[.val (.ref a), .val (.ref b), .val (.int (Int32.ofNat o)), .val (.int (Int32.ofNat len)), .val .null, .unset] [.int (Int32.ofNat len), .int (Int32.ofNat o), .ref b])) rfl (by rw [hml]; rfl) c7 (argsL := [.ref b, .int (Int32.ofNat o), .int (Int32.ofNat len)]) (rest := []) rfl rfl (by show 2 * 0 + 0 ≤ _; decide) (hb hbytes d36) (⟨rfl, hA.mv X5.warmed.alike hh5, l1, l2, hp⟩)
  obtain ⟨e8, z8⟩ := E8
  obtain ⟨rfl, N, n1, n2, n3, n4, n5, n6⟩ := NewArr.mv _ T5 s _ _ hh5.symm (Vm.Alike.refl _) rfl e8
  rw [hh5] at z8
  have hB1 := hB.keep X8.warmed.alike (n6 _ _ hB.1)
  have hne : s.heap.size ≠ a := (Nat.ne_of_lt (Array.getElem?_eq_some_iff.mp hB.1).1).symm
  have c9 : Steps p.tables e below (s₁.setTop (entryFrame m #[.ref a, .ref b, .int (Int32.ofNat o), .int (Int32.ofNat len), .null] 6)) (T8.setTop (mkF m 39 #[.val (.ref a), .val (.ref b), .val (.int (Int32.ofNat o)), .val (.int (Int32.ofNat len)), .val .null, .unset] [.ref s.heap.size])) := g8
  have c10 : Steps p.tables e below (s₁.setTop (entryFrame m #[.ref a, .ref b, .int (Int32.ofNat o), .int (Int32.ofNat len), .null] 6)) (T8.setTop (mkF m 45 #[.val (.ref a), .val (.ref b), .val (.int (Int32.ofNat o)), .val (.int (Int32.ofNat len)), .val .null, .val (.ref s.heap.size)] [.int (Int32.ofNat N.slots.size), .ref s.heap.size, .ref a])) := by
    have hc : Steps p.tables e below (s₁.setTop (entryFrame m #[.ref a, .ref b, .int (Int32.ofNat o), .int (Int32.ofNat len), .null] 6)) (T8.setTop (mkF m 45 #[.val (.ref a), .val (.ref b), .val (.int (Int32.ofNat o)), .val (.int (Int32.ofNat len)), .val .null, .val (.ref s.heap.size)] [.int (Int32.ofNat len), .ref s.heap.size, .ref a])) := c9.trans (by
      refine XS.astore X8.here hexec rfl (hb hbytes d39) rfl rfl rfl ?_
      refine XS.aloadN X8.here hexec rfl (hb hbytes d41) rfl rfl ?_
      refine XS.aload X8.here hexec rfl (hb hbytes d42) rfl rfl ?_
      refine XS.iloadN X8.here hexec rfl (hb hbytes d44) rfl ?_
      exact Steps.refl _)
    rw [n4]; exact hc
  obtain ⟨v11, T11, X11, E11, g11⟩ := X8.callS hexec (CodL.law l s.heap.size N) hown (wks W (staticW "java/lang/String" 47 CodL.yN)) (wk W CodL.tab) (W := 1) (Nat.le_of_ble_eq_true rfl) (Nat.le_of_ble_eq_true rfl) (Nat.le_refl _) (by show 0 + len + 0 ≤ len; omega) (g := (mkF m 45 #[.val (.ref a), .val (.ref b), .val (.int (Int32.ofNat o)), .val (.int (Int32.ofNat len)), .val .null, .val (.ref s.heap.size)] [.int (Int32.ofNat N.slots.size), .ref s.heap.size, .ref a])) rfl (by rw [hml]; rfl) c10 (argsL := [.ref s.heap.size, .int (Int32.ofNat N.slots.size)]) (rest := [.ref a]) rfl rfl (by show 2 * 0 + (1 + 0) ≤ _; decide) (hb hbytes d45) (⟨rfl, n1⟩)
  obtain ⟨rfl, q11⟩ := E11
  have hB11 := hB1.mv (X8.warmed.alike.symm.trans X11.warmed.alike) q11
  have c12 : Steps p.tables e below (s₁.setTop (entryFrame m #[.ref a, .ref b, .int (Int32.ofNat o), .int (Int32.ofNat len), .null] 6)) (T11.setTop (mkF m 48 #[.val (.ref a), .val (.ref b), .val (.int (Int32.ofNat o)), .val (.int (Int32.ofNat len)), .val .null, .val (.ref s.heap.size)] [.int 0, .ref a])) := g11
  obtain ⟨T13, X13, p13, bl13, sl13, st13⟩ := X11.finit hexec hown (wk W (.fieldLink "java/lang/String" 15 "java/lang/String" "coder" "B")) (Or.inr ⟨_, (wk W (.laysFinal "java/lang/String" "java/lang/String" "coder" "B"))⟩) (Or.inl ⟨rfl, hnm⟩) f2 (Or.inl rfl) hB11 (t := .byte) (by decide +kernel) rfl (g := (mkF m 48 #[.val (.ref a), .val (.ref b), .val (.int (Int32.ofNat o)), .val (.int (Int32.ofNat len)), .val .null, .val (.ref s.heap.size)] [.int 0, .ref a])) rfl (rest := []) rfl (hb hbytes d48)
  have c14 : Steps p.tables e below (s₁.setTop (entryFrame m #[.ref a, .ref b, .int (Int32.ofNat o), .int (Int32.ofNat len), .null] 6)) (T13.setTop (mkF m 54 #[.val (.ref a), .val (.ref b), .val (.int (Int32.ofNat o)), .val (.int (Int32.ofNat len)), .val .null, .val (.ref s.heap.size)] [.ref s.heap.size, .ref a])) := (c12.trans (st13 _ (Steps.refl _))).trans (by
    refine XS.aloadN X13.here hexec rfl (hb hbytes d51) rfl rfl ?_
    refine XS.aload X13.here hexec rfl (hb hbytes d52) rfl rfl ?_
    exact Steps.refl _)
  obtain ⟨T15, X15, p15, bl15, sl15, st15⟩ := X13.finit hexec hown (wk W (.fieldLink "java/lang/String" 9 "java/lang/String" "value" "[B")) (Or.inr ⟨_, (wk W (.laysFinal "java/lang/String" "java/lang/String" "value" "[B"))⟩) (Or.inl ⟨rfl, hnm⟩) f1 (Or.inl rfl) bl13 (t := (.array .byte)) (by decide +kernel) rfl (g := (mkF m 54 #[.val (.ref a), .val (.ref b), .val (.int (Int32.ofNat o)), .val (.int (Int32.ofNat len)), .val .null, .val (.ref s.heap.size)] [.ref s.heap.size, .ref a])) rfl (rest := []) rfl (hb hbytes d54)
  have c16 : Steps p.tables e below (s₁.setTop (entryFrame m #[.ref a, .ref b, .int (Int32.ofNat o), .int (Int32.ofNat len), .null] 6)) (T15.setTop (mkF m 57 #[.val (.ref a), .val (.ref b), .val (.int (Int32.ofNat o)), .val (.int (Int32.ofNat len)), .val .null, .val (.ref s.heap.size)] [])) := c14.trans (st15 _ (Steps.refl _))
  have ap := apart (Or.inr ⟨_, (wk W (.laysFinal "java/lang/String" "java/lang/String" "value" "[B"))⟩) (Or.inr ⟨_, (wk W (.laysFinal "java/lang/String" "java/lang/String" "coder" "B"))⟩) f1 f2 (t₁ := .array .byte) (t₂ := .byte) (by decide +kernel) (by decide +kernel) (by decide)
  have al := X8.warmed.alike.symm.trans X15.warmed.alike
  have n7 : T11.heap[s.heap.size]? = some N := by rw [q11]; exact n1.1
  exact ⟨T15, none, _, _, _, X15, by simp, rfl, by omega, (fun _ => rfl), ⟨rfl, _, N, bl15, ((Same.refl D _).set _ (by simp)).set _ (by simp), sl15, (Cell.slots_setSlot_ne _ ap).trans sl13, n1.keep al (p15.other hne (p13.other hne n7)), n2, by rw [al.findClass]; exact n3, n4, n5, fun y c h1 h2 => p15.other h1 (p13.other h1 (by rw [q11]; exact n6 y c h2)), by rw [p15.2.2, p13.2.2, q11]; exact z8⟩, fun fs hl => c16.trans (X15.returnOut hexec hret (hb hbytes d57) hl)⟩
end New4
namespace New1
def yN : MethodName := ⟨"java/lang/String", "<init>", "([C)V"⟩
abbrev yB : ByteArray := jdk_42_method_3_code
theorem d0 : decode yB 0 = .ok (.aload_n 0, 1) := by decide +kernel
theorem d1 : decode yB 1 = .ok (.aload_n 1, 1) := by decide +kernel
theorem d2 : decode yB 2 = .ok (.iconst 0, 1) := by decide +kernel
theorem d3 : decode yB 3 = .ok (.aload_n 1, 1) := by decide +kernel
theorem d4 : decode yB 4 = .ok (.arraylength, 1) := by decide +kernel
theorem d5 : decode yB 5 = .ok (.aconst_null, 1) := by decide +kernel
theorem d6 : decode yB 6 = .ok (.invokespecial 27, 3) := by decide +kernel
theorem d9 : decode yB 9 = .ok (.return_, 1) := by decide +kernel
def site : List Cond := [New4.tab] ++ initW "java/lang/String" 27 New4.yN
def tab : Cond := tabOf yN yB 2 none site
def P (a : Addr) (D : Cell) (fV fC : Field) (b : Addr) (A : Cell) (z : Int32) (args : Array Value) (s : State) : Prop := args = #[.ref a, .ref b] ∧ Blank "java/lang/String" a D s ∧ Found "java/lang/String" "value" "[B" fV s ∧ Found "java/lang/String" "coder" "B" fC s ∧ Ch b A s ∧ StaticIs s "java/lang/String" "COMPACT_STRINGS" "Z" (.int z) ∧ ¬ z = 0 ∧ 0 < A.slots.size ∧ A.slots.size ≤ 536870912 ∧ ∀ i, i < A.slots.size → ¬ 255 < cv A i
def E (a : Addr) (D : Cell) (fV fC : Field) (A : Cell) (r : Option Value) (s u : State) : Prop := Got a D fV fC A 0 A.slots.size r s u
/-- new String(chars), not empty, no char above 255: a Latin-1 String of their low bytes -/
theorem law (l : Launch) (a : Addr) (D : Cell) (fV fC : Field) (b : Addr) (A : Cell) (z : Int32) : Law l yN 2 1 3 52 yB 2 none site (P a D fV fC b A z) (E a D fV fC A) [⟨a, fC.slot⟩, ⟨a, fV.slot⟩] 1 A.slots.size := by
  refine Law.of_walk (plainFor_of_name (by decide +kernel)) (by decide +kernel) (by decide +kernel) (by decide) (fun _ _ h => by rw [h.1]; rfl) (fun _ U U' hal hh h => ⟨h.1, h.2.1.mv hal hh, h.2.2.1.al hal, h.2.2.2.1.al hal, h.2.2.2.2.1.mv hal hh, h.2.2.2.2.2.1.there hal hh, h.2.2.2.2.2.2⟩) (fun r U U' V V' h1 hal h2 h => Got.mv r U U' V V' h1 hal h2 h) ?_
  intro p e s m args below meth c s₁ X0 hexec hbytes hml hret hlk hnm hown hh0 W hP
  obtain ⟨rfl, hB, f1, f2, hA, s1, hz, l0, l2, hp⟩ := hP
  have c1 : Steps p.tables e below (s₁.setTop (entryFrame m #[.ref a, .ref b] 2)) (s₁.setTop (mkF m 0 #[.val (.ref a), .val (.ref b)] [])) := entry rfl
  have c2 : Steps p.tables e below (s₁.setTop (entryFrame m #[.ref a, .ref b] 2)) (s₁.setTop (mkF m 6 #[.val (.ref a), .val (.ref b)] [.null, .int (Int32.ofNat A.slots.size), .int 0, .ref b, .ref a])) := c1.trans (by
    refine XS.aloadN X0.here hexec rfl (hb hbytes d0) rfl rfl ?_
    refine XS.aloadN X0.here hexec rfl (hb hbytes d1) rfl rfl ?_
    refine iconstV X0.here hexec rfl 0 (hb hbytes d2) (by decide) ?_
    refine XS.aloadN X0.here hexec rfl (hb hbytes d3) rfl rfl ?_
    refine X0.alen hexec (hA.1.mv X0.warmed.alike hh0) rfl rfl (hb hbytes d4) ?_
    refine XS.aconstNull X0.here hexec rfl (hb hbytes d5) ?_
    exact Steps.refl _)
  obtain ⟨v3, T3, X3, E3, g3⟩ := X0.callN hexec (New4.law l a D fV fC b A z 0 A.slots.size) rfl hown (wks W (initW "java/lang/String" 27 New4.yN)) (W New4.tab (by simp only [site, List.mem_cons, List.mem_append, true_or, or_true])) (W := 0) (Nat.le_of_ble_eq_true rfl) (Nat.le_of_ble_eq_true rfl) (Nat.le_refl _) (by show 0 + A.slots.size ≤ A.slots.size; omega) (g := (mkF m 6 #[.val (.ref a), .val (.ref b)] [.null, .int (Int32.ofNat A.slots.size), .int (Int32.ofNat 0), .ref b, .ref a])) rfl (by rw [hml]; rfl) c2 (argsL := [.ref b, .int (Int32.ofNat 0), .int (Int32.ofNat A.slots.size), .null]) (rest := []) rfl rfl (by show 2 * 0 + 0 ≤ _; decide) (hb hbytes d6) (⟨rfl, hB.mv X0.warmed.alike hh0, f1.al X0.warmed.alike, f2.al X0.warmed.alike, hA.mv X0.warmed.alike hh0, s1.there X0.warmed.alike hh0, hz, l0, by omega, l2, fun i hi => by rw [Nat.zero_add]; exact hp i hi⟩)
  have e0 := Got.mv _ s₁ s _ _ hh0.symm (Vm.Alike.refl _) rfl E3
  obtain rfl := e0.1
  have c4 : Steps p.tables e below (s₁.setTop (entryFrame m #[.ref a, .ref b] 2)) (T3.setTop (mkF m 9 #[.val (.ref a), .val (.ref b)] [])) := g3
  exact ⟨T3, none, _, _, _, X3, by simp, rfl, by omega, (fun _ => rfl), e0, fun fs hl => c4.trans (X3.returnOut hexec hret (hb hbytes d9) hl)⟩
theorem pays {l : Launch} {R : Room} {p : Program} {e : Env} {below : List Frame} {s : State} {sargs : Array Value} {len W : Nat} (a : Addr) (D : Cell) (fV fC : Field) (b : Addr) (A : Cell) (z : Int32) (htab : tab.before sargs s = true) (hfr : 4 ≤ R.frames) (hlo : W + 65 ≤ R.locals) :
    Back l R p e below s sargs yN len W (fun A₁ a₁ => A₁.cells + 1 ≤ R.cells ∧ A₁.slots + A.slots.size ≤ R.slots ∧ P a D fV fC b A z a₁ A₁.U) (fun A₁ _ v₁ B₁ => E a D fV fC A v₁ A₁.U B₁.U ∧ B₁.locs = A₁.locs ++ [⟨a, fC.slot⟩, ⟨a, fV.slot⟩] ∧ B₁.cells = A₁.cells + 1 ∧ B₁.slots = A₁.slots + A.slots.size) :=
  (law l a D fV fC b A z).pays htab hfr (by omega)
end New1
end StrChars
namespace StrChars.Road
open Jvm Sem ClassFile Op Lib Jvm.Stand Jvm.Free Jvm.Free.XT
open Jvm.Lib.Cold (StaticIs)
abbrev ST : String := "java/lang/String"
/-- every table word that New1's law asks, flat -/
abbrev words : List Jvm.Cond := [.code New1.yN New1.yB 2 none, .initialized ST, .methodLink ST 27 New4.yN, .instanceMethod New4.yN,
  .code New4.yN New4.yB 6 none, .fieldLink ST 38 ST "COMPACT_STRINGS" "Z", .laysFinal ST ST "value" "[B", .fieldLink ST 9 ST "value" "[B", .laysFinal ST ST "coder" "B", .fieldLink ST 15 ST "coder" "B",
  .methodLink ST 1 Lib.objectInit, .instanceMethod Lib.objectInit, .code Lib.objectInit ⟨#[0xb1]⟩ 1 none, .methodLink ST 177 Cmp3.yN, .static Cmp3.yN, .methodLink ST 47 CodL.yN, .static CodL.yN,
  .code Cmp3.yN Cmp3.yB 6 (some (.array .byte)), .initialized U16, .arrayClass .byte, .methodLink U16 115 Cmp5.yN, .static Cmp5.yN, .code Cmp5.yN Cmp5.yB 7 (some .int), .code CodL.yN CodL.yB 2 (some .byte)]
theorem tab_of {a : Array Value} {s : State} (h : ∀ w ∈ words, w.before a s = true) : New1.tab.before a s = true := by
  have h5 : Cmp5.tab.before a s = true := unparts (wk h (.code Cmp5.yN Cmp5.yB 7 (some .int))) (wks h (.initialized Cmp5.yN.cls :: Cmp5.site))
  have hc : CodL.tab.before a s = true := unparts (wk h (.code CodL.yN CodL.yB 2 (some .byte))) (wks h (.initialized CodL.yN.cls :: CodL.site))
  have q5 : ∀ w ∈ Cmp5.tab :: words, w.before a s = true := fun w hw => (List.mem_cons.mp hw).elim (fun e => e ▸ h5) (h w)
  have h3 : Cmp3.tab.before a s = true := unparts (wk q5 (.code Cmp3.yN Cmp3.yB 6 (some (.array .byte)))) (wks q5 (.initialized Cmp3.yN.cls :: Cmp3.site))
  have q3 : ∀ w ∈ Cmp3.tab :: CodL.tab :: words, w.before a s = true := fun w hw => (List.mem_cons.mp hw).elim (fun e => e ▸ h3) fun hw => (List.mem_cons.mp hw).elim (fun e => e ▸ hc) (h w)
  have h4 : New4.tab.before a s = true := unparts (wk q3 (.code New4.yN New4.yB 6 none)) (wks q3 (.initialized New4.yN.cls :: New4.site))
  have q4 : ∀ w ∈ New4.tab :: words, w.before a s = true := fun w hw => (List.mem_cons.mp hw).elim (fun e => e ▸ h4) (h w)
  exact unparts (wk q4 (.code New1.yN New1.yB 2 none)) (wks q4 (.initialized New1.yN.cls :: New1.site))
/-- the words ride from the start Z to the walk's own state -/
theorem moved {Z s : State} {a0 args : Array Value} (hZ : Z.Warmed39 s.vm) (hw : ∀ d ∈ words, d.before a0 Z = true) : ∀ d ∈ words, d.before args s = true := fun d hd => by
  have q := hw d hd
  have t : ∀ d ∈ words, d = .arrayClass .byte ∨ (d.onTables && d.keepsFace) = true := by decide +kernel
  rcases t d hd with rfl | t
  · exact RoadKit.mvA hZ q
  · exact RoadKit.mv hZ q t
/-- WHAT COMES BACK, over the tables of the start Z: h the heap at the call, h' behind it -/
def Q (Z : State) (x : Addr) (A : Cell) (h : Heap) (v : Option Value) (h' : Heap) (L : List Loc) : Prop := v = none ∧ (∀ y ∈ L, y.base = x) ∧ RoadKit.Keep h h' [x] ∧ h'.size = h.size + 1 ∧ RoadKit.Exa Z h' x ST ∧ RoadKit.Fld Z h' x ST "value" "[B" (.ref h.size) ∧ RoadKit.Fld Z h' x ST "coder" "B" (.int 0) ∧
  (∃ V : Cell, RoadKit.Arr Z h' h.size V .byte ∧ V.vm = .none ∧ Z.vm.findClass "[B" = some V.cls ∧ V.slots.size = A.slots.size ∧ ∀ j, j < A.slots.size → V.slots[j]? = some (.int (lo8 (cv A j)))) ∧
  ∀ (O n d : String) (w : Value), RoadKit.Fld Z h x O n d w → RoadKit.slotOf Z O n d ≠ RoadKit.slotOf Z ST "value" "[B" → RoadKit.slotOf Z O n d ≠ RoadKit.slotOf Z ST "coder" "B" → RoadKit.Fld Z h' x O n d w
/-- **new String(chars) AT A CALL, IN THE ROAD'S FORM**: for specialBack behind newO: x the fresh String, b the char[] with the cell A -/
theorem back {p : Program} {l : Launch} {e : Env} {R : Room} {s : State} {args : Array Value} {below : List Frame} {len W : Nat} {Z : State} {a0 : Array Value} {h : Heap} (hZ : Z.Warmed39 s.vm) (hw : ∀ d ∈ words, d.before a0 Z = true) {kI : Nat} (wi : (Jvm.Cond.instantiable ST kI).before a0 Z = true)
    {x b : Addr} {A : Cell} {z : Int32} {v0 c0 : Value} (E : RoadKit.Exa Z h x ST) (V : RoadKit.Fld Z h x ST "value" "[B" v0) (C : RoadKit.Fld Z h x ST "coder" "B" c0) (K : RoadKit.Arr Z h b A .char) (hty : Typed .char A) (S : RoadKit.Sta Z h ST "COMPACT_STRINGS" "Z" (.int z)) (hz : ¬ z = 0)
    (l0 : 0 < A.slots.size) (l2 : A.slots.size ≤ 536870912) (hp : ∀ i, i < A.slots.size → ¬ 255 < cv A i) (hfr : 4 ≤ R.frames) (hlo : W + 65 ≤ R.locals) :
    Back l R p e below s args New1.yN len W (fun P a => a = #[.ref x, .ref b] ∧ P.U.heap = h ∧ P.cells + 1 ≤ R.cells ∧ P.slots + A.slots.size ≤ R.slots)
      (fun P _ v B => ∃ L, Q Z x A h v B.U.heap L ∧ B.locs = P.locs ++ L ∧ B.cells = P.cells + 1 ∧ B.slots = P.slots + A.slots.size) := by
  intro m meth c P g ig mk a X hg hsize hdg hW hn hp'
  obtain ⟨rfl, rfl, r1, r2⟩ := hp'
  have al : Z.vm.Alike P.U.vm := hZ.alike.trans X.warmed.alike
  obtain ⟨D, cfV, kV, iV, fV, hD, gV, stV, knV, obV, asV, slV⟩ := id V
  obtain ⟨D', cfC, kC, iC, fC, hD', gC, stC, -, -, asC, slC⟩ := id C
  cases hD.symm.trans hD'
  obtain ⟨D2, kD, e1, e2, e3, e4, e5⟩ := id E
  cases hD.symm.trans e1
  obtain ⟨c2, k2, i1, i2, i3, -⟩ := Cond.instantiable_spec wi
  cases e2.symm.trans i1
  cases e3.symm.trans i2
  obtain ⟨kU, u1, u2⟩ := al.2.2 _ _ e3
  have hB : Blank ST x D P.U := ⟨hD, ⟨knV, fun q hq => by rw [hq] at obV; cases obV⟩, by rw [al.findClass]; exact e2, kU, u1, by rw [u2]; exact i3, by rw [u2]; exact e5 i3⟩
  have F1 : Found ST "value" "[B" fV P.U := ⟨SBG.found_only al ⟨cfV, kV, iV, gV⟩, stV⟩
  have F2 : Found ST "coder" "B" fC P.U := ⟨SBG.found_only al ⟨cfC, kC, iC, gC⟩, stC⟩
  have hA : Ch b A P.U := ⟨⟨K.1, State.isArrayOf_alike al K.2.1, K.2.2, by omega⟩, hty⟩
  have hS : StaticIs P.U ST "COMPACT_STRINGS" "Z" (.int z) := by
    obtain ⟨cfS, iS, kS, fS, st, cS, t1, t2, t3, t4, t5, t6, t7⟩ := S
    exact StaticIs.there (s := { Z with heap := P.U.heap }) ⟨cfS, iS, kS, fS, st, cS, t1, t2, t3, t4, t5, (fun q => by rw [q] at t6; cases t6), t7⟩ al rfl
  obtain ⟨v, B, X', ⟨⟨hv, E', V', q1, q2, q3, q4, q5, q6, q7, q8, q9, q10, q11⟩, hl, hc, hs⟩, st⟩ := New1.pays x D fV fC b A z (tab_of (moved hZ hw)) hfr hlo m meth c P g ig mk _ X hg hsize hdg hW hn ⟨r1, r2, rfl, hB, F1, F2, hA, hS, hz, l0, l2, hp⟩
  have al' : Z.vm.Alike B.U.vm := hZ.alike.trans X'.warmed.alike
  have hsz : E'.slots.size = D.slots.size := by
    obtain ⟨-, -, -, kB, w1, w2, w3⟩ := q1
    obtain ⟨kB', y1, y2⟩ := al'.2.2 _ _ e3
    rw [q2.2.1] at w1
    cases w1.symm.trans y1
    rw [w3, e5 i3, y2]
  refine ⟨v, B, X', ⟨_, ⟨hv, ?_, ⟨by omega, fun y cy hy hn' => q10 y cy (by simpa using hn') hy, fun y cy hy => ?_⟩, q11, ⟨E', _, q1.1, by rw [q2.2.1]; exact e2, by rw [q2.2.1]; exact e3, by rw [q2.1]; exact obV, fun _ => by rw [hsz]; exact e5 i3⟩,
    ⟨E', cfV, kV, iV, fV, q1.1, gV, stV, by rw [q2.1]; exact knV, by rw [q2.1]; exact obV, by rw [q2.2.1]; exact asV, q3⟩, ⟨E', cfC, kC, iC, fC, q1.1, gC, stC, by rw [q2.1]; exact knV, by rw [q2.1]; exact obV, by rw [q2.2.1]; exact asC, q4⟩,
    ⟨V', ⟨q5.1, State.isArrayOf_alike al'.symm q5.2.1, q5.2.2.1⟩, q6, by rw [← al'.findClass]; exact q7, q8, fun j hj => by have := q9 j hj; rwa [Nat.zero_add] at this⟩, fun O n d w F n1 n2 => ?_⟩, hl, hc, hs⟩, st⟩
  · intro y hy
    simp only [List.mem_cons, List.not_mem_nil, or_false] at hy
    rcases hy with rfl | rfl <;> rfl
  · by_cases q : y = x
    · subst q
      cases hD.symm.trans hy
      exact ⟨E', q1.1, q2.2.1, q2.1, hsz⟩
    · exact ⟨cy, q10 y cy q hy, rfl, rfl, rfl⟩
  · obtain ⟨D3, cf, k, i, f, g1, g2, g3, g4, g5, g6, g7⟩ := F
    cases hD.symm.trans g1
    simp only [RoadKit.slotOf, g2, gV, gC, Option.map_some, Option.getD_some] at n1 n2
    exact ⟨E', cf, k, i, f, q1.1, g2, g3, by rw [q2.1]; exact g4, by rw [q2.1]; exact g5, by rw [q2.2.1]; exact g6, by rw [q2.2.2 f.slot (by simp [n1, n2])]; exact g7⟩
end StrChars.Road
namespace StrChars.Road
open Jvm Sem ClassFile Op Lib Jvm.Stand Jvm.Free Jvm.Free.XT
/-- WHAT COMES BACK, the byte[] as a list of values -/
def QA (Z : State) (x : Addr) (zn : Int32) (cs : List Int32) (h : Heap) (v : Option Value) (h' : Heap) (L : List Loc) : Prop := v = none ∧ (∀ y ∈ L, y.base = x) ∧ RoadKit.Keep h h' [x] ∧ h'.size = h.size + 1 ∧ RoadKit.Exa Z h' x ST ∧ RoadKit.Fld Z h' x ST "value" "[B" (.ref h.size) ∧ RoadKit.Fld Z h' x ST "coder" "B" (.int 0) ∧
  (∃ kb, Z.vm.findClass "[B" = some kb ∧ RoadKit.Arv Z h' h.size kb .byte zn (cs.map fun c => .int (lo8 c)) (.int 0)) ∧
  ∀ (O n d : String) (w : Value), RoadKit.Fld Z h x O n d w → RoadKit.slotOf Z O n d ≠ RoadKit.slotOf Z ST "value" "[B" → RoadKit.slotOf Z O n d ≠ RoadKit.slotOf Z ST "coder" "B" → RoadKit.Fld Z h' x O n d w
/-- **new String(chars) AT A CALL, THE ARRAYS AS LISTS**: the char[] at b holds cs, not empty, no char above 255 -/
theorem backArv {p : Program} {l : Launch} {e : Env} {R : Room} {s : State} {args : Array Value} {below : List Frame} {len W : Nat} {Z : State} {a0 : Array Value} {h : Heap} (hZ : Z.Warmed39 s.vm) (hw : ∀ d ∈ words, d.before a0 Z = true) {kI : Nat} (wi : (Jvm.Cond.instantiable ST kI).before a0 Z = true)
    {x b : Addr} {k : ClassId} {zn z : Int32} {cs : List Int32} {dv v0 c0 : Value} (E : RoadKit.Exa Z h x ST) (V : RoadKit.Fld Z h x ST "value" "[B" v0) (C : RoadKit.Fld Z h x ST "coder" "B" c0) (K : RoadKit.Arv Z h b k .char zn (cs.map Value.int) dv) (S : RoadKit.Sta Z h ST "COMPACT_STRINGS" "Z" (.int z)) (hz : ¬ z = 0)
    (hlen : zn.toNatClampNeg = cs.length) (h0 : 0 < cs.length) (hbig : cs.length ≤ 536870912) (hall : ∀ c ∈ cs, ¬ 255 < c) (hfr : 4 ≤ R.frames) (hlo : W + 65 ≤ R.locals) :
    Back l R p e below s args New1.yN len W (fun P a => a = #[.ref x, .ref b] ∧ P.U.heap = h ∧ P.cells + 1 ≤ R.cells ∧ P.slots + cs.length ≤ R.slots)
      (fun P _ v B => ∃ L, QA Z x zn cs h v B.U.heap L ∧ B.locs = P.locs ++ L ∧ B.cells = P.cells + 1 ∧ B.slots = P.slots + cs.length) := by
  obtain ⟨A, K1, K2, K3, K4, K5, K6⟩ := K
  have e : A.slots.size = cs.length := K3.trans hlen
  have hat : ∀ (i : Nat) (hi : i < cs.length), A.slots[i]? = some (.int cs[i]) := fun i hi => by rw [K5 i (by omega)]; simp [List.getD_eq_getElem?_getD, hi]
  have hcv : ∀ (i : Nat) (hi : i < cs.length), cv A i = cs[i] := fun i hi => by unfold cv; rw [hat i hi]
  have hty : Typed .char A := fun i v hv => by
    have hi : i < A.slots.size := (Array.getElem?_eq_some_iff.mp hv).1
    have q := K5 i hi
    rw [hv] at q
    rw [Option.some.inj q]
    exact K6 i hi
  refine Back.mono (back hZ hw wi E V C K1 hty S hz (by omega) (by omega) (fun i hi => by rw [hcv i (by omega)]; exact hall _ (List.getElem_mem _)) hfr hlo) (fun P a hp => ⟨hp.1, hp.2.1, hp.2.2.1, by rw [e]; exact hp.2.2.2⟩) (fun P a v B hp hq => ?_)
  obtain ⟨L, ⟨q1, q2, q3, q4, q5, q6, q7, ⟨V', v1, v2, v3, v4, v5⟩, q9⟩, hl, hc, hs⟩ := hq
  refine ⟨L, ⟨q1, q2, q3, q4, q5, q6, q7, ⟨V'.cls, v3, V', v1, rfl, by rw [v4, e, hlen], K4, fun i hi => ?_, fun i hi => ?_⟩, q9⟩, hl, hc, by rw [hs, e]⟩
  · have hi' : i < cs.length := by omega
    rw [v5 i (by omega), hcv i hi']; simp [List.getD_eq_getElem?_getD, hi']
  · have hi' : i < cs.length := by omega
    simp only [List.getD_eq_getElem?_getD, List.getElem?_map, List.getElem?_eq_getElem hi', Option.map_some, Option.getD_some]
    exact fits_lo8 _
end StrChars.Road
namespace StrChars.Road
open Jvm Sem ClassFile Op Lib Jvm.Stand Jvm.Free Jvm.Free.XT
/-- WHAT COMES BACK, in the writer's own shape -/
def QV (Z : State) (x : Addr) (N : Int32) (bs : List Int32) (h : Heap) (n0 : Nat) (v : Option Value) (h' : Heap) (L : List Loc) : Prop := v = none ∧ RoadKit.Fr n0 L ∧ RoadKit.Keep h h' [x] ∧ RoadKit.Exa Z h' x ST ∧ RoadKit.Fld Z h' x ST "coder" "B" (.int 0) ∧
  ∃ (t : Addr) (kb : ClassId), n0 ≤ t ∧ h.size ≤ t ∧ ¬ t = x ∧ RoadKit.Fld Z h' x ST "value" "[B" (.ref t) ∧ RoadKit.Arv Z h' t kb .byte N (bs.map Value.int) (.int 0)
/-- **new String(chars) AT A CALL, FOR THE WRITER**: a char[] of n known ints, each 0 to 255 -/
theorem backV {p : Program} {l : Launch} {e : Env} {R : Room} {s : State} {args : Array Value} {below : List Frame} {len W : Nat} {Z : State} {a0 : Array Value} {h : Heap} (hZ : Z.Warmed39 s.vm) (hw : ∀ d ∈ words, d.before a0 Z = true) {kI : Nat} (wi : (Jvm.Cond.instantiable ST kI).before a0 Z = true)
    {x b : Addr} {kC : ClassId} {cs bs : List Int32} {d v0 c0 : Value} {z N : Int32} {n n0 : Nat} (hx0 : n0 ≤ x) (hh0 : n0 ≤ h.size) (E : RoadKit.Exa Z h x ST) (V : RoadKit.Fld Z h x ST "value" "[B" v0) (C : RoadKit.Fld Z h x ST "coder" "B" c0) (K : RoadKit.Arv Z h b kC .char N (cs.map Value.int) d) (S : RoadKit.Sta Z h ST "COMPACT_STRINGS" "Z" (.int z)) (hz : ¬ z = 0)
    (hn : cs.length = n) (hN : N = Int32.ofNat n) (l0 : 0 < n) (l2 : n ≤ 4000) (hp : ∀ c ∈ cs, ¬ c < 0 ∧ ¬ (255 : Int32) < c) (hb : bs = cs.map (fun c => c.toInt8.toInt32)) (hfr : 4 ≤ R.frames) (hlo : W + 65 ≤ R.locals) :
    Back l R p e below s args (⟨"java/lang/String", "<init>", "([C)V"⟩ : MethodName) len W (fun P a => a = #[.ref x, .ref b] ∧ P.U.heap = h ∧ P.cells + 1 ≤ R.cells ∧ P.slots + n ≤ R.slots)
      (fun P _ v B => ∃ L, QV Z x N bs h n0 v B.U.heap L ∧ B.locs = P.locs ++ L ∧ B.cells = P.cells + 1 ∧ B.slots = P.slots + n) := by
  subst hn hN hb
  refine Back.mono (backArv hZ hw wi E V C K S hz (n32 (by omega)) l0 (by omega) (fun c hc => (hp c hc).2) hfr hlo) (fun P a hp => hp) (fun P a v B hp hq => ?_)
  obtain ⟨L, ⟨q1, q2, q3, q4, q5, q6, q7, ⟨kb, v1, v2⟩, q9⟩, hl, hc, hs⟩ := hq
  exact ⟨L, ⟨q1, fun y hy => by rw [q2 y hy]; exact hx0, q3, q5, q7, h.size, kb, hh0, Nat.le_refl _, Nat.ne_of_gt E.lt, q6, by rw [List.map_map]; exact v2⟩, hl, hc, hs⟩
end StrChars.Road
namespace StrChars
open Jvm Sem ClassFile Op Lib Jvm.Stand Jvm.Free.XT Jvm.Free.ALB Jvm.Free.JM Jvm.Free
open Jvm.Lib.Cold (StaticIs)
def hi8 (x : Int32) : Int32 := lo8 (x >>> ((8 : Int32) &&& 31))
theorem shr0 (c : Int32) : c >>> ((0 : Int32) &&& 31) = c := by
  have e : ((0 : Int32) &&& 31) = 0 := by decide
  rw [e]
  apply Int32.toBitVec_inj.mp
  rw [Int32.toBitVec_shiftRight]
  have e1 : ((0 : Int32).toBitVec.smod 32) = 0#32 := by decide
  rw [e1, BitVec.sshiftRight_eq']
  exact BitVec.sshiftRight_zero
end StrChars
namespace StrChars
open Jvm Sem ClassFile Op Lib Jvm.Stand Jvm.Free.XT Jvm.Free.ALB Jvm.Free.JM Jvm.Free
open Jvm.Lib.Cold (StaticIs)
theorem shr1 {n : Nat} (h : 2 * n < 2 ^ 31) : Int32.ofNat (2 * n) >>> ((1 : Int32) &&& 31) = Int32.ofNat n := by
  have e : ((1 : Int32) &&& 31) = 1 := by decide
  rw [e]
  apply Int32.toBitVec_inj.mp
  rw [Int32.toBitVec_shiftRight]
  have e1 : ((1 : Int32).toBitVec.smod 32) = 1#32 := by decide
  have hm : (BitVec.ofNat 32 (2 * n)).toNat = 2 * n := by rw [BitVec.toNat_ofNat, Nat.mod_eq_of_lt (by omega)]
  rw [e1, BitVec.sshiftRight_eq']
  apply BitVec.eq_of_toNat_eq
  show ((BitVec.ofNat 32 (2 * n)).sshiftRight 1).toNat = (BitVec.ofNat 32 n).toNat
  rw [BitVec.toNat_sshiftRight_of_msb_false (by rw [BitVec.msb_eq_false_iff_two_mul_lt, hm]; omega), hm, BitVec.toNat_ofNat, Nat.shiftRight_eq_div_pow]
  omega
/-- the array's cell V codes the n chars f 0 .. f (n - 1) by the coder cd, as the JDK does: coder 1 just where some char is above 255 -/
def Cod (cd : Int32) (n : Nat) (f : Nat → Int32) (V : Cell) : Prop := (cd = 0 ∧ V.slots.size = n ∧ ∀ j, j < n → V.slots[j]? = some (.int (lo8 (f j))) ∧ ¬ 255 < f j) ∨ (cd = 1 ∧ V.slots.size = 2 * n ∧ (∀ j, j < n → V.slots[2 * j]? = some (.int (lo8 (f j))) ∧ V.slots[2 * j + 1]? = some (.int (hi8 (f j)))) ∧ ∃ j, j < n ∧ 255 < f j)
theorem Cod.cd {cd : Int32} {n : Nat} {f : Nat → Int32} {V : Cell} (h : Cod cd n f V) : cd = 0 ∨ cd = 1 := h.imp (fun q => q.1) fun q => q.1
theorem Cod.len {cd : Int32} {n : Nat} {f : Nat → Int32} {V : Cell} (h : Cod cd n f V) (hs : V.slots.size < 2 ^ 31) : Int32.ofNat V.slots.size >>> (cd &&& 31) = Int32.ofNat n := by
  rcases h with ⟨rfl, h, -⟩ | ⟨rfl, h, -⟩
  · rw [shr0, h]
  · rw [h, shr1 (by omega)]
/-- **x is a String of the n chars f 0 .. f (n - 1)**, Latin-1 or UTF-16; its array at t has the cell V -/
def Txt (x t : Addr) (V : Cell) (cd : Int32) (n : Nat) (f : Nat → Int32) (U : State) : Prop := Exact "java/lang/String" x U ∧ Has x "java/lang/String" "value" "[B" (.ref t) U ∧ Has x "java/lang/String" "coder" "B" (.int cd) U ∧ XT.Arr .byte t V U ∧ Cod cd n f V ∧ ∀ j, j < n → ¬ f j < 0 ∧ ¬ 65535 < f j
theorem Txt.mv {x t : Addr} {V : Cell} {cd : Int32} {n : Nat} {f : Nat → Int32} {U U' : State} (h : Txt x t V cd n f U) (hal : U.vm.Alike U'.vm) (hh : U'.heap = U.heap) : Txt x t V cd n f U' := ⟨h.1.mv hal hh, h.2.1.mv hal hh, h.2.2.1.mv hal hh, h.2.2.2.1.mv hal hh, h.2.2.2.2⟩
namespace Cdr
def yN : MethodName := ⟨"java/lang/String", "coder", "()B"⟩
abbrev yB : ByteArray := jdk_42_method_152_code
theorem d0 : decode yB 0 = .ok (.getstatic 38, 3) := by decide +kernel
theorem d3 : decode yB 3 = .ok (.ifCond (.eq) 10, 3) := by decide +kernel
theorem d6 : decode yB 6 = .ok (.aload_n 0, 1) := by decide +kernel
theorem d7 : decode yB 7 = .ok (.getfield 15, 3) := by decide +kernel
theorem d10 : decode yB 10 = .ok (.goto 4, 3) := by decide +kernel
theorem d14 : decode yB 14 = .ok (.ireturn, 1) := by decide +kernel
def site : List Cond := [.fieldLink "java/lang/String" 38 "java/lang/String" "COMPACT_STRINGS" "Z", .fieldLink "java/lang/String" 15 "java/lang/String" "coder" "B"]
def tab : Cond := tabOf yN yB 1 (some .byte) site
def P (x : Addr) (cd z : Int32) (args : Array Value) (s : State) : Prop := args = #[.ref x] ∧ Has x "java/lang/String" "coder" "B" (.int cd) s ∧ (cd = 0 ∨ cd = 1) ∧ StaticIs s "java/lang/String" "COMPACT_STRINGS" "Z" (.int z) ∧ ¬ z = 0
def E (cd : Int32) (r : Option Value) (s u : State) : Prop := XT.PureE (some (.int cd)) r s u
theorem law (l : Launch) (x : Addr) (cd z : Int32) : Law l yN 1 0 0 0 yB 1 (some .byte) site (P x cd z) (E cd) [] 0 0 := by
  refine Law.of_walk (plainFor_of_name (by decide +kernel)) (by decide +kernel) (by decide +kernel) (by decide) (fun _ _ h => by rw [h.1]; rfl) (fun _ U U' hal hh h => ⟨h.1, h.2.1.mv hal hh, h.2.2.1, h.2.2.2.1.there hal hh, h.2.2.2.2⟩) (fun r U U' V V' h1 hal h2 h => XT.PureE.mv r U U' V V' h1 hal h2 h) ?_
  intro p e s m args below meth c s₁ X0 hexec hbytes hml hret hlk hnm hown hh0 W hP
  obtain ⟨rfl, hx, hc, s1, hz⟩ := hP
  have c1 : Steps p.tables e below (s₁.setTop (entryFrame m #[.ref x] 1)) (s₁.setTop (mkF m 0 #[.val (.ref x)] [])) := entry rfl
  obtain ⟨T2, X2, q2, st2⟩ := X0.sget hexec hown (wk W (.fieldLink "java/lang/String" 38 "java/lang/String" "COMPACT_STRINGS" "Z")) s1 (fun _ _ h => by rw [hh0]; exact h) (g := (mkF m 0 #[.val (.ref x)] [])) rfl (hb hbytes d0)
  have hh2 := q2.trans hh0
  have c3 : Steps p.tables e below (s₁.setTop (entryFrame m #[.ref x] 1)) (T2.setTop (mkF m 7 #[.val (.ref x)] [.ref x])) := (c1.trans (st2 _ (Steps.refl _))).trans (by
    refine XS.ifNo X2.here hexec rfl (hb hbytes d3) rfl (i0_eq_f hz) ?_
    refine XS.aloadN X2.here hexec rfl (hb hbytes d6) rfl rfl ?_
    exact Steps.refl _)
  obtain ⟨T4, X4, q4, st4⟩ := X2.hget hexec hown (wk W (.fieldLink "java/lang/String" 15 "java/lang/String" "coder" "B")) (hx.mv X2.warmed.alike hh2) (g := (mkF m 7 #[.val (.ref x)] [.ref x])) rfl (rest := []) rfl (hb hbytes d7)
  have c5 : Steps p.tables e below (s₁.setTop (entryFrame m #[.ref x] 1)) (T4.setTop (mkF m 14 #[.val (.ref x)] [.int cd])) := (c3.trans (st4 _ (Steps.refl _))).trans (by
    refine XS.goto X4.here hexec rfl (pc0 := 10) rfl (hb hbytes d10) (by decide) rfl ?_
    exact Steps.refl _)
  exact ⟨T4, some (.int cd), _, _, _, X4, rfl, rfl, rfl, (fun h => by cases h), ⟨rfl, q4.trans hh2⟩, fun fs hl => c5.trans (X4.ireturnOut hexec hret (by rcases hc with rfl | rfl <;> rfl) (Or.inr (Or.inr (Or.inl rfl))) (hb hbytes d14) hl)⟩
end Cdr
namespace Len
def yN : MethodName := ⟨"java/lang/String", "length", "()I"⟩
abbrev yB : ByteArray := jdk_42_method_54_code
theorem d0 : decode yB 0 = .ok (.aload_n 0, 1) := by decide +kernel
theorem d1 : decode yB 1 = .ok (.getfield 9, 3) := by decide +kernel
theorem d4 : decode yB 4 = .ok (.arraylength, 1) := by decide +kernel
theorem d5 : decode yB 5 = .ok (.aload_n 0, 1) := by decide +kernel
theorem d6 : decode yB 6 = .ok (.invokevirtual 335, 3) := by decide +kernel
theorem d9 : decode yB 9 = .ok (.ishr, 1) := by decide +kernel
theorem d10 : decode yB 10 = .ok (.ireturn, 1) := by decide +kernel
def site : List Cond := [.fieldLink "java/lang/String" 9 "java/lang/String" "value" "[B", Cdr.tab] ++ virtW "java/lang/String" 335 "java/lang/String" Cdr.yN Cdr.yN
def tab : Cond := tabOf yN yB 1 (some .int) site
def P (x t : Addr) (V : Cell) (cd : Int32) (n : Nat) (f : Nat → Int32) (z : Int32) (args : Array Value) (s : State) : Prop := args = #[.ref x] ∧ Txt x t V cd n f s ∧ StaticIs s "java/lang/String" "COMPACT_STRINGS" "Z" (.int z) ∧ ¬ z = 0
def E (n : Nat) (r : Option Value) (s u : State) : Prop := XT.PureE (some (.int (Int32.ofNat n))) r s u
/-- length() of a String of n chars, in either coding -/
theorem law (l : Launch) (x t : Addr) (V : Cell) (cd : Int32) (n : Nat) (f : Nat → Int32) (z : Int32) : Law l yN 1 0 1 13 yB 1 (some .int) site (P x t V cd n f z) (E n) [] 0 0 := by
  refine Law.of_walk (plainFor_of_name (by decide +kernel)) (by decide +kernel) (by decide +kernel) (by decide) (fun _ _ h => by rw [h.1]; rfl) (fun _ U U' hal hh h => ⟨h.1, h.2.1.mv hal hh, h.2.2.1.there hal hh, h.2.2.2⟩) (fun r U U' V V' h1 hal h2 h => XT.PureE.mv r U U' V V' h1 hal h2 h) ?_
  intro p e s m args below meth c s₁ X0 hexec hbytes hml hret hlk hnm hown hh0 W hP
  obtain ⟨rfl, hx, s1, hz⟩ := hP
  have v31 := hx.2.2.2.1.2.2.2
  have c1 : Steps p.tables e below (s₁.setTop (entryFrame m #[.ref x] 1)) (s₁.setTop (mkF m 1 #[.val (.ref x)] [.ref x])) := Steps.trans (entry rfl) (by
    show Steps p.tables e below (s₁.setTop (mkF m 0 #[.val (.ref x)] [])) _
    refine XS.aloadN X0.here hexec rfl (hb hbytes d0) rfl rfl ?_
    exact Steps.refl _)
  obtain ⟨T2, X2, q2, st2⟩ := X0.hget hexec hown (wk W (.fieldLink "java/lang/String" 9 "java/lang/String" "value" "[B")) (hx.mv X0.warmed.alike hh0).2.1 (g := (mkF m 1 #[.val (.ref x)] [.ref x])) rfl (rest := []) rfl (hb hbytes d1)
  have hh2 := q2.trans hh0
  have hx2 := hx.mv X2.warmed.alike hh2
  have c3 : Steps p.tables e below (s₁.setTop (entryFrame m #[.ref x] 1)) (T2.setTop (mkF m 6 #[.val (.ref x)] [.ref x, .int (Int32.ofNat V.slots.size)])) := (c1.trans (st2 _ (Steps.refl _))).trans (by
    refine X2.alen hexec hx2.2.2.2.1 rfl rfl (hb hbytes d4) ?_
    refine XS.aloadN X2.here hexec rfl (hb hbytes d5) rfl rfl ?_
    exact Steps.refl _)
  obtain ⟨v4, T4, X4, E4, g4⟩ := X2.callV hexec (Cdr.law l x cd z) hown (wks W (virtW "java/lang/String" 335 "java/lang/String" Cdr.yN Cdr.yN)) rfl (by decide) (wk W Cdr.tab) (W := 1) (Nat.le_of_ble_eq_true rfl) (Nat.le_of_ble_eq_true rfl) (Nat.le_refl _) (Nat.le_refl _) (hx2.1.fc X2.warmed.alike) hx2.1.is (g := (mkF m 6 #[.val (.ref x)] [.ref x, .int (Int32.ofNat V.slots.size)])) rfl (by rw [hml]; rfl) c3 (argsL := []) (rest := [.int (Int32.ofNat V.slots.size)]) rfl rfl (by show 2 * 0 + (1 + 0) ≤ _; decide) (hb hbytes d6) (⟨rfl, hx2.2.2.1, hx.2.2.2.2.1.cd, s1.there X2.warmed.alike hh2, hz⟩)
  obtain ⟨rfl, q4⟩ := E4
  have c5 : Steps p.tables e below (s₁.setTop (entryFrame m #[.ref x] 1)) (T4.setTop (mkF m 10 #[.val (.ref x)] [.int (Int32.ofNat V.slots.size >>> (cd &&& 31))])) := Steps.trans g4 (by
    refine ishr X4.here hexec rfl (hb hbytes d9) rfl ?_
    exact Steps.refl _)
  rw [hx.2.2.2.2.1.len v31] at c5
  exact ⟨T4, some (.int (Int32.ofNat n)), _, _, _, X4, rfl, rfl, rfl, (fun h => by cases h), ⟨rfl, q4.trans hh2⟩, fun fs hl => c5.trans (X4.ireturnOut hexec hret rfl (Or.inl rfl) (hb hbytes d10) hl)⟩
theorem pays {l : Launch} {R : Room} {p : Program} {e : Env} {below : List Frame} {s : State} {sargs : Array Value} {len W : Nat} (x t : Addr) (V : Cell) (cd : Int32) (n : Nat) (f : Nat → Int32) (z : Int32) (htab : tab.before sargs s = true) (hfr : 2 ≤ R.frames) (hlo : W + 25 ≤ R.locals) :
    Back l R p e below s sargs yN len W (fun A₁ a₁ => A₁.cells + 0 ≤ R.cells ∧ A₁.slots + 0 ≤ R.slots ∧ P x t V cd n f z a₁ A₁.U) (fun A₁ _ v₁ B₁ => E n v₁ A₁.U B₁.U ∧ B₁.locs = A₁.locs ++ [] ∧ B₁.cells = A₁.cells + 0 ∧ B₁.slots = A₁.slots + 0) :=
  (law l x t V cd n f z).pays htab hfr (by omega)
end Len
end StrChars
namespace StrChars.Road
open Jvm Sem ClassFile Op Lib Jvm.Stand Jvm.Free Jvm.Free.XT
open Jvm.Lib.Cold (StaticIs)
theorem consq {a : Array Value} {s : State} {c : Jvm.Cond} {L : List Jvm.Cond} (h0 : c.before a s = true) (h : ∀ w ∈ L, w.before a s = true) : ∀ w ∈ c :: L, w.before a s = true := fun w hw => (List.mem_cons.mp hw).elim (fun e => e ▸ h0) (h w)
/-- the words of String.length(), either coding -/
abbrev wordsLen : List Jvm.Cond := [.code Len.yN Len.yB 1 (some .int), .initialized ST, .fieldLink ST 9 ST "value" "[B", .fieldLink ST 38 ST "COMPACT_STRINGS" "Z", .fieldLink ST 15 ST "coder" "B", .code Cdr.yN Cdr.yB 1 (some .byte), .methodLink ST 335 Cdr.yN, .declares Cdr.yN, .selects ST Cdr.yN Cdr.yN, .instanceMethod Cdr.yN]
theorem tabLen_of {a : Array Value} {s : State} (h : ∀ w ∈ wordsLen, w.before a s = true) : Len.tab.before a s = true := by
  have hc : Cdr.tab.before a s = true := unparts (wk h (.code Cdr.yN Cdr.yB 1 (some .byte))) (wks h (.initialized Cdr.yN.cls :: Cdr.site))
  have q := consq hc h
  exact unparts (wk q (.code Len.yN Len.yB 1 (some .int))) (wks q (.initialized Len.yN.cls :: Len.site))
theorem movedLen {Z s : State} {a0 args : Array Value} (hZ : Z.Warmed39 s.vm) (hw : ∀ d ∈ wordsLen, d.before a0 Z = true) : ∀ d ∈ wordsLen, d.before args s = true := fun d hd => by
  have q := hw d hd
  have t : ∀ d ∈ wordsLen, d = .arrayClass .byte ∨ (d.onTables && d.keepsFace) = true := by decide +kernel
  rcases t d hd with rfl | t
  · exact RoadKit.mvA hZ q
  · exact RoadKit.mv hZ q t
/-- the bytes of the chars cs, low before high -/
def wideBytes : List Int32 → List Value
  | [] => []
  | c :: cs => .int (lo8 c) :: .int (hi8 c) :: wideBytes cs
theorem wide_lo (d : Value) : ∀ (cs : List Int32) (j : Nat), j < cs.length → (wideBytes cs).getD (2 * j) d = .int (lo8 (cs.getD j 0))
  | [], j, h => absurd h (Nat.not_lt_zero j)
  | c :: cs, 0, _ => rfl
  | c :: cs, j + 1, h => by
    have q := wide_lo d cs j (by simpa using h)
    rw [show 2 * (j + 1) = 2 * j + 1 + 1 from by omega]
    simpa [wideBytes] using q
theorem wide_hi (d : Value) : ∀ (cs : List Int32) (j : Nat), j < cs.length → (wideBytes cs).getD (2 * j + 1) d = .int (hi8 (cs.getD j 0))
  | [], j, h => absurd h (Nat.not_lt_zero j)
  | c :: cs, 0, _ => rfl
  | c :: cs, j + 1, h => by
    have q := wide_hi d cs j (by simpa using h)
    rw [show 2 * (j + 1) + 1 = 2 * j + 1 + 1 + 1 from by omega]
    simpa [wideBytes] using q
theorem low_at (d : Value) (cs : List Int32) (j : Nat) (h : j < cs.length) : (cs.map fun c => Value.int (lo8 c)).getD j d = .int (lo8 (cs.getD j 0)) := by
  simp [List.getD_eq_getElem?_getD, h]
/-- an array of N2 bytes vs codes the chars cs by the coder cd -/
def CodA (cs : List Int32) (cd N2 : Int32) (vs : List Value) : Prop := (cd = 0 ∧ N2 = Int32.ofNat cs.length ∧ vs = (cs.map fun c => Value.int (lo8 c)) ∧ ∀ c ∈ cs, ¬ 255 < c) ∨ (cd = 1 ∧ N2 = Int32.ofNat (2 * cs.length) ∧ vs = wideBytes cs ∧ ∃ c ∈ cs, 255 < c)
theorem CodA.cod {cs : List Int32} {cd N2 : Int32} {vs : List Value} {V : Cell} (h : CodA cs cd N2 vs) (hn : 2 * cs.length < 2 ^ 31) (hs : V.slots.size = N2.toNatClampNeg) (hv : RoadKit.Has V vs (.int 0)) : Cod cd cs.length (fun j => cs.getD j 0) V := by
  rcases h with ⟨rfl, rfl, rfl, h⟩ | ⟨rfl, rfl, rfl, c, hc, hw⟩
  · rw [n32 (by omega)] at hs
    exact Or.inl ⟨rfl, hs, fun j hj => ⟨by rw [hv j (by omega), low_at _ _ _ hj], by
      have e : cs.getD j 0 = cs[j] := by simp [List.getD_eq_getElem?_getD, hj]
      show ¬ 255 < cs.getD j 0
      rw [e]; exact h _ (List.getElem_mem _)⟩⟩
  · rw [n32 (by omega)] at hs
    obtain ⟨j, hj, rfl⟩ := List.getElem_of_mem hc
    exact Or.inr ⟨rfl, hs, fun j hj => ⟨by rw [hv _ (by omega), wide_lo _ _ _ hj], by rw [hv _ (by omega), wide_hi _ _ _ hj]⟩, j, hj, by
      have e : cs.getD j 0 = cs[j] := by simp [List.getD_eq_getElem?_getD, hj]
      show 255 < cs.getD j 0
      rw [e]; exact hw⟩
/-- an object of exactly java/lang/String, its two fields found: as the laws ask it -/
theorem strObj {Z U : State} {a0 : Array Value} {kI : Nat} (wi : (Jvm.Cond.instantiable ST kI).before a0 Z = true) (al : Z.vm.Alike U.vm) {x : Addr} {v0 c0 : Value} (E : RoadKit.Exa Z U.heap x ST) (V : RoadKit.Fld Z U.heap x ST "value" "[B" v0) (C : RoadKit.Fld Z U.heap x ST "coder" "B" c0) :
    ∃ (D : Cell) (fV fC : Field), Blank ST x D U ∧ Found ST "value" "[B" fV U ∧ Found ST "coder" "B" fC U ∧ D.slots[fV.slot]? = some v0 ∧ D.slots[fC.slot]? = some c0 ∧ RoadKit.slotOf Z ST "value" "[B" = fV.slot ∧ RoadKit.slotOf Z ST "coder" "B" = fC.slot := by
  obtain ⟨D, cfV, kV, iV, fV, hD, gV, stV, knV, obV, asV, slV⟩ := V
  obtain ⟨D', cfC, kC, iC, fC, hD', gC, stC, -, -, asC, slC⟩ := C
  cases hD.symm.trans hD'
  obtain ⟨D2, kD, e1, e2, e3, e4, e5⟩ := E
  cases hD.symm.trans e1
  obtain ⟨c2, k2, i1, i2, i3, -⟩ := Cond.instantiable_spec wi
  cases e2.symm.trans i1
  cases e3.symm.trans i2
  obtain ⟨kU, u1, u2⟩ := al.2.2 _ _ e3
  exact ⟨D, fV, fC, ⟨hD, ⟨knV, fun q hq => by rw [hq] at obV; cases obV⟩, by rw [al.findClass]; exact e2, kU, u1, by rw [u2]; exact i3, by rw [u2]; exact e5 i3⟩, ⟨SBG.found_only al ⟨cfV, kV, iV, gV⟩, stV⟩, ⟨SBG.found_only al ⟨cfC, kC, iC, gC⟩, stC⟩, slV, slC, by simp [RoadKit.slotOf, gV], by simp [RoadKit.slotOf, gC]⟩
theorem sta_is {Z U : State} (al : Z.vm.Alike U.vm) {C n d : String} {v : Value} (S : RoadKit.Sta Z U.heap C n d v) : StaticIs U C n d v := by
  obtain ⟨cfS, iS, kS, fS, st, cS, t1, t2, t3, t4, t5, t6, t7⟩ := S
  exact StaticIs.there (s := { Z with heap := U.heap }) ⟨cfS, iS, kS, fS, st, cS, t1, t2, t3, t4, t5, (fun q => by rw [q] at t6; cases t6), t7⟩ al rfl
/-- **length() OF SUCH A STRING** -/
theorem lenW {p : Program} {l : Launch} {e : Env} {R : Room} {s : State} {args : Array Value} {below : List Frame} {len W : Nat} {Z : State} {a0 : Array Value} {h : Heap} (hZ : Z.Warmed39 s.vm) (hw : ∀ d ∈ wordsLen, d.before a0 Z = true) {kI : Nat} (wi : (Jvm.Cond.instantiable ST kI).before a0 Z = true)
    {x t : Addr} {kb : ClassId} {cs : List Int32} {cd N2 z : Int32} {vs : List Value} (E : RoadKit.Exa Z h x ST) (V : RoadKit.Fld Z h x ST "value" "[B" (.ref t)) (C : RoadKit.Fld Z h x ST "coder" "B" (.int cd)) (K : RoadKit.Arv Z h t kb .byte N2 vs (.int 0)) (hc : CodA cs cd N2 vs) (hb : ∀ c ∈ cs, ¬ c < 0 ∧ ¬ (65535 : Int32) < c)
    (S : RoadKit.Sta Z h ST "COMPACT_STRINGS" "Z" (.int z)) (hz : ¬ z = 0) (l2 : cs.length ≤ 4000) (hfr : 2 ≤ R.frames) (hlo : W + 25 ≤ R.locals) :
    Back l R p e below s args (⟨"java/lang/String", "length", "()I"⟩ : MethodName) len W (fun P a => a = #[.ref x] ∧ P.U.heap = h ∧ P.cells + 0 ≤ R.cells ∧ P.slots + 0 ≤ R.slots)
      (fun P _ v B => ∃ L, (v = some (.int (Int32.ofNat cs.length)) ∧ L = [] ∧ B.U.heap = h) ∧ B.locs = P.locs ++ L ∧ B.cells = P.cells + 0 ∧ B.slots = P.slots + 0) := by
  obtain ⟨A, K1, K2, K3, K4, K5, K6⟩ := K
  have hcod := hc.cod (by omega) K3 K5
  intro m meth c P g ig mk a X hg hsize hdg hW hn hp'
  obtain ⟨rfl, rfl, r1, r2⟩ := hp'
  have al : Z.vm.Alike P.U.vm := hZ.alike.trans X.warmed.alike
  obtain ⟨D, fV, fC, hB, F1, F2, g1, g2, -, -⟩ := strObj wi al E V C
  have hx : Txt x t A cd cs.length (fun j => cs.getD j 0) P.U := ⟨⟨_, hB.2.2.1, D, hB.1, rfl, by cases q : D.vm <;> first | rfl | exact absurd q (hB.2.1.2 _)⟩, Has.of hB F1 g1, Has.of hB F2 g2, ⟨K1.1, State.isArrayOf_alike al K1.2.1, K1.2.2, by rcases hcod with ⟨-, q, -⟩ | ⟨-, q, -⟩ <;> omega⟩, hcod, fun j hj => by
    have e : cs.getD j 0 = cs[j] := by simp [List.getD_eq_getElem?_getD, hj]
    show ¬ cs.getD j 0 < 0 ∧ ¬ 65535 < cs.getD j 0
    rw [e]; exact hb _ (List.getElem_mem _)⟩
  obtain ⟨v, B, X', ⟨⟨hv, hh⟩, hl, hk, hs⟩, st⟩ := Len.pays x t A cd cs.length (fun j => cs.getD j 0) z (tabLen_of (movedLen hZ hw)) hfr hlo m meth c P g ig mk _ X hg hsize hdg hW hn ⟨r1, r2, rfl, hx, sta_is al S, hz⟩
  exact ⟨v, B, X', ⟨[], ⟨hv, rfl, hh⟩, hl, hk, hs⟩, st⟩
end StrChars.Road
namespace StrChars.Road
open Jvm Sem ClassFile Op Lib Jvm.Stand Jvm.Free Jvm.Free.XT
open Jvm.Lib.Cold (StaticIs)
/-- what backV says of its String, as the contracts of this text ask it: cs's low bytes, coder 0 -/
theorem codOf {cs : List Int32} {n : Nat} (hn : cs.length = n) (hb : ∀ c ∈ cs, ¬ 255 < c) : CodA cs 0 (Int32.ofNat n) ((cs.map lo8).map Value.int) := Or.inl ⟨rfl, by rw [hn], by simp [List.map_map, Function.comp_def], hb⟩
end StrChars.Road
end Jvm.Pilot.@@N@@
namespace Jvm.Pilot.@@N@@
namespace Own
open Jvm Jvm.ClassFile Sem Op Lib Jvm.Free Jvm.Stand Jvm.LawKit Jvm.RoadKit Bundle
/-! ## 1. The plain steps, run as a function on pc, locals and stack -/
abbrev Fm : Type := Nat × Array Slot × List Value
def i1 (S : List Value) (f : Int32 → List Value → Option Fm) : Option Fm := match S with | .int x :: S => f x S | _ => none
def i2 (S : List Value) (f : Int32 → Int32 → List Value → Option Fm) : Option Fm := match S with | .int y :: .int x :: S => f x y S | _ => none
def l1 (S : List Value) (f : Int64 → List Value → Option Fm) : Option Fm := match S with | .long x :: S => f x S | _ => none
def l2 (S : List Value) (f : Int64 → Int64 → List Value → Option Fm) : Option Fm := match S with | .long y :: .long x :: S => f x y S | _ => none
def il2 (S : List Value) (f : Int64 → Int32 → List Value → Option Fm) : Option Fm := match S with | .int y :: .long x :: S => f x y S | _ => none
def v1 (S : List Value) (f : Value → List Value → Option Fm) : Option Fm := match S with | x :: S => f x S | _ => none
def v2 (S : List Value) (f : Value → Value → List Value → Option Fm) : Option Fm := match S with | y :: x :: S => f x y S | _ => none
def gi (L : Array Slot) (k : Nat) (f : Int32 → Option Fm) : Option Fm := match L[k]? with | some (.val (.int x)) => f x | _ => none
def gl (L : Array Slot) (k : Nat) (f : Int64 → Option Fm) : Option Fm := match L[k]? with | some (.val (.long x)) => f x | _ => none
def gr (L : Array Slot) (k : Nat) (f : Value → Option Fm) : Option Fm := match L[k]? with | some (.val .null) => f .null | some (.val (.ref a)) => f (.ref a) | _ => none
def ck (P : Prop) [Decidable P] (r : Option Fm) : Option Fm := if P then r else none
def st (o : Option (Array Slot)) (f : Array Slot → Fm) : Option Fm := match o with | some L => some (f L) | none => none
theorem i1_inv {S f r} (h : i1 S f = some r) : ∃ x S', S = .int x :: S' ∧ f x S' = some r := by unfold i1 at h; split at h <;> first | exact ⟨_, _, rfl, h⟩ | exact nomatch h
theorem i2_inv {S f r} (h : i2 S f = some r) : ∃ x y S', S = .int y :: .int x :: S' ∧ f x y S' = some r := by unfold i2 at h; split at h <;> first | exact ⟨_, _, _, rfl, h⟩ | exact nomatch h
theorem l1_inv {S f r} (h : l1 S f = some r) : ∃ x S', S = .long x :: S' ∧ f x S' = some r := by unfold l1 at h; split at h <;> first | exact ⟨_, _, rfl, h⟩ | exact nomatch h
theorem l2_inv {S f r} (h : l2 S f = some r) : ∃ x y S', S = .long y :: .long x :: S' ∧ f x y S' = some r := by unfold l2 at h; split at h <;> first | exact ⟨_, _, _, rfl, h⟩ | exact nomatch h
theorem il2_inv {S f r} (h : il2 S f = some r) : ∃ x y S', S = .int y :: .long x :: S' ∧ f x y S' = some r := by unfold il2 at h; split at h <;> first | exact ⟨_, _, _, rfl, h⟩ | exact nomatch h
theorem v1_inv {S f r} (h : v1 S f = some r) : ∃ x S', S = x :: S' ∧ f x S' = some r := by unfold v1 at h; split at h <;> first | exact ⟨_, _, rfl, h⟩ | exact nomatch h
theorem v2_inv {S f r} (h : v2 S f = some r) : ∃ x y S', S = y :: x :: S' ∧ f x y S' = some r := by unfold v2 at h; split at h <;> first | exact ⟨_, _, _, rfl, h⟩ | exact nomatch h
theorem gi_inv {L k f r} (h : gi L k f = some r) : ∃ x, L[k]? = some (.val (.int x)) ∧ f x = some r := by unfold gi at h; split at h <;> first | exact ⟨_, by assumption, h⟩ | exact nomatch h
theorem gl_inv {L k f r} (h : gl L k f = some r) : ∃ x, L[k]? = some (.val (.long x)) ∧ f x = some r := by unfold gl at h; split at h <;> first | exact ⟨_, by assumption, h⟩ | exact nomatch h
theorem gr_inv {L k f r} (h : gr L k f = some r) : ∃ x, L[k]? = some (.val x) ∧ x.isRef = true ∧ f x = some r := by unfold gr at h; split at h <;> first | exact ⟨_, by assumption, rfl, h⟩ | exact ⟨_, by assumption, rfl, h⟩ | exact nomatch h
theorem ck_inv {P : Prop} [Decidable P] {r : Option Fm} {x : Fm} (h : ck P r = some x) : P ∧ r = some x := by unfold ck at h; split at h <;> first | exact ⟨by assumption, h⟩ | exact nomatch h
theorem st_inv {o f r} (h : st o f = some r) : ∃ L, o = some L ∧ f L = r := by unfold st at h; split at h <;> first | exact ⟨_, rfl, Option.some.inj h⟩ | exact nomatch h
def p1 (i : Instr) (n pc : Nat) (L : Array Slot) (S : List Value) : Option Fm := match i with
  | .iload_n k => ck (n = 1) (gi L k.val fun v => some (pc + 1, L, .int v :: S))
  | .iload k => ck (n = 2) (gi L k fun v => some (pc + 2, L, .int v :: S))
  | .lload_n k => ck (n = 1) (gl L k.val fun v => some (pc + 1, L, .long v :: S))
  | .lload k => ck (n = 2) (gl L k fun v => some (pc + 2, L, .long v :: S))
  | .aload_n k => ck (n = 1) (gr L k.val fun v => some (pc + 1, L, v :: S))
  | .aload k => ck (n = 2) (gr L k fun v => some (pc + 2, L, v :: S))
  | .iconst i => ck (n = 1) (some (pc + 1, L, .int (Int32.ofInt i) :: S))
  | .lconst k => ck (n = 1) (some (pc + 1, L, .long (Int64.ofNat k) :: S))
  | .bipush i => ck (n = 2) (some (pc + 2, L, .int (Int8.ofInt i).toInt32 :: S))
  | .sipush i => ck (n = 3) (some (pc + 3, L, .int (Int16.ofInt i).toInt32 :: S))
  | .aconst_null => ck (n = 1) (some (pc + 1, L, .null :: S))
  | .iadd => ck (n = 1) (i2 S fun x y S => some (pc + 1, L, .int (x + y) :: S))
  | .isub => ck (n = 1) (i2 S fun x y S => some (pc + 1, L, .int (x - y) :: S))
  | .imul => ck (n = 1) (i2 S fun x y S => some (pc + 1, L, .int (x * y) :: S))
  | .iand => ck (n = 1) (i2 S fun x y S => some (pc + 1, L, .int (x &&& y) :: S))
  | .ior => ck (n = 1) (i2 S fun x y S => some (pc + 1, L, .int (x ||| y) :: S))
  | .ixor => ck (n = 1) (i2 S fun x y S => some (pc + 1, L, .int (x ^^^ y) :: S))
  | .ishl => ck (n = 1) (i2 S fun x y S => some (pc + 1, L, .int (x <<< (y &&& 31)) :: S))
  | .ishr => ck (n = 1) (i2 S fun x y S => some (pc + 1, L, .int (x >>> (y &&& 31)) :: S))
  | .iushr => ck (n = 1) (i2 S fun x y S => some (pc + 1, L, .int (XT.ushr x y) :: S))
  | .irem => ck (n = 1) (i2 S fun x y S => ck (y ≠ 0) (some (pc + 1, L, .int (x % y) :: S)))
  | .idiv => ck (n = 1) (i2 S fun x y S => ck (y ≠ 0) (some (pc + 1, L, .int (x / y) :: S)))
  | .ineg => ck (n = 1) (i1 S fun x S => some (pc + 1, L, .int (-x) :: S))
  | .ladd => ck (n = 1) (l2 S fun x y S => some (pc + 1, L, .long (x + y) :: S))
  | .lsub => ck (n = 1) (l2 S fun x y S => some (pc + 1, L, .long (x - y) :: S))
  | .lmul => ck (n = 1) (l2 S fun x y S => some (pc + 1, L, .long (x * y) :: S))
  | .land => ck (n = 1) (l2 S fun x y S => some (pc + 1, L, .long (x &&& y) :: S))
  | .lor => ck (n = 1) (l2 S fun x y S => some (pc + 1, L, .long (x ||| y) :: S))
  | .lxor => ck (n = 1) (l2 S fun x y S => some (pc + 1, L, .long (x ^^^ y) :: S))
  | .lushr => ck (n = 1) (il2 S fun x y S => some (pc + 1, L, .long (XT.ushrL x y) :: S))
  | .lshr => ck (n = 1) (il2 S fun x y S => some (pc + 1, L, .long (x >>> (y.toInt64 &&& 63)) :: S))
  | .lshl => ck (n = 1) (il2 S fun x y S => some (pc + 1, L, .long (x <<< (y.toInt64 &&& 63)) :: S))
  | .ldiv => ck (n = 1) (l2 S fun x y S => ck (y ≠ 0) (some (pc + 1, L, .long (x / y) :: S)))
  | .lrem => ck (n = 1) (l2 S fun x y S => ck (y ≠ 0) (some (pc + 1, L, .long (x % y) :: S)))
  | .lcmp => ck (n = 1) (l2 S fun x y S => some (pc + 1, L, .int (XT.cmpL x y) :: S))
  | .lneg => ck (n = 1) (l1 S fun x S => some (pc + 1, L, .long (-x) :: S))
  | .i2l => ck (n = 1) (i1 S fun x S => some (pc + 1, L, .long x.toInt64 :: S))
  | .l2i => ck (n = 1) (l1 S fun x S => some (pc + 1, L, .int x.toInt32 :: S))
  | .i2b => ck (n = 1) (i1 S fun x S => some (pc + 1, L, .int x.toInt8.toInt32 :: S))
  | .i2c => ck (n = 1) (i1 S fun x S => some (pc + 1, L, .int x.toUInt32.toUInt16.toUInt32.toInt32 :: S))
  | .istore_n k => ck (n = 1) (i1 S fun x S => st (storeLocals L k.val (.int x)) fun L => (pc + 1, L, S))
  | .istore k => ck (n = 2) (i1 S fun x S => st (storeLocals L k (.int x)) fun L => (pc + 2, L, S))
  | .lstore_n k => ck (n = 1) (l1 S fun x S => st (storeLocals L k.val (.long x)) fun L => (pc + 1, L, S))
  | .lstore k => ck (n = 2) (l1 S fun x S => st (storeLocals L k (.long x)) fun L => (pc + 2, L, S))
  | .astore_n k => ck (n = 1) (v1 S fun x S => ck (x.isRef = true) (st (storeLocals L k.val x) fun L => (pc + 1, L, S)))
  | .astore k => ck (n = 2) (v1 S fun x S => ck (x.isRef = true) (st (storeLocals L k x) fun L => (pc + 2, L, S)))
  | .iinc k i => ck (n = 3) (gi L k fun v => st (storeLocals L k (.int (v + Int32.ofInt i))) fun L => (pc + 3, L, S))
  | .dup => ck (n = 1) (v1 S fun x S => ck (x.category = 1) (some (pc + 1, L, x :: x :: S)))
  | .dup_x1 => ck (n = 1) (v2 S fun y x S => ck (x.category = 1 ∧ y.category = 1) (some (pc + 1, L, x :: y :: x :: S)))
  | .pop => ck (n = 1) (v1 S fun x S => ck (x.category = 1) (some (pc + 1, L, S)))
  | .goto o => ck (n = 3 ∧ 0 ≤ (pc : Int) + o) (some (((pc : Int) + o).toNat, L, S))
  | _ => none
set_option maxHeartbeats 4000000 in
theorem p1_sound {tb : Tables} [Ours tb] {e : Env} {below : List Frame} {T target : State} {m : MethodId} {c : Code} (h : At T m c below) (hx : tb.exec = Jvm.exec) {i : Instr} {n pc : Nat} {L : Array Slot} {S : List Value} {F : Fm}
    (hd : decode c.code pc = .ok (i, n)) (hp : p1 i n pc L S = some F) (hr : Steps tb e below (T.setTop (mkF m F.1 F.2.1 F.2.2)) target) : Steps tb e below (T.setTop (mkF m pc L S)) target := by
  cases i <;> simp only [p1, reduceCtorEq] at hp
  case iload_n k => obtain ⟨rfl, hp1⟩ := ck_inv hp; obtain ⟨v, hl, hp2⟩ := gi_inv hp1; cases hp2; exact XS.iloadN h hx rfl hd hl hr
  case iload k => obtain ⟨rfl, hp1⟩ := ck_inv hp; obtain ⟨v, hl, hp2⟩ := gi_inv hp1; cases hp2; exact XS.iload h hx rfl hd hl hr
  case lload_n k => obtain ⟨rfl, hp1⟩ := ck_inv hp; obtain ⟨v, hl, hp2⟩ := gl_inv hp1; cases hp2; exact XT.lloadN h hx rfl hd hl hr
  case lload k => obtain ⟨rfl, hp1⟩ := ck_inv hp; obtain ⟨v, hl, hp2⟩ := gl_inv hp1; cases hp2; exact XT.lload h hx rfl hd hl hr
  case aload_n k => obtain ⟨rfl, hp1⟩ := ck_inv hp; obtain ⟨v, hl, hv, hp2⟩ := gr_inv hp1; cases hp2; exact XS.aloadN h hx rfl hd hl hv hr
  case aload k => obtain ⟨rfl, hp1⟩ := ck_inv hp; obtain ⟨v, hl, hv, hp2⟩ := gr_inv hp1; cases hp2; exact XS.aload h hx rfl hd hl hv hr
  case iconst i => obtain ⟨rfl, hp1⟩ := ck_inv hp; cases hp1; exact XS.iconst h hx rfl hd hr
  case lconst i => obtain ⟨rfl, hp1⟩ := ck_inv hp; cases hp1; exact XT.lconst h hx rfl hd hr
  case bipush i => obtain ⟨rfl, hp1⟩ := ck_inv hp; cases hp1; exact XS.bipush h hx rfl hd hr
  case sipush i => obtain ⟨rfl, hp1⟩ := ck_inv hp; cases hp1; exact XS.sipush h hx rfl hd hr
  case aconst_null => obtain ⟨rfl, hp1⟩ := ck_inv hp; cases hp1; exact XS.aconstNull h hx rfl hd hr
  case iadd => obtain ⟨rfl, hp1⟩ := ck_inv hp; obtain ⟨x, y, S', rfl, hp2⟩ := i2_inv hp1; cases hp2; exact XS.iadd h hx rfl hd rfl hr
  case isub => obtain ⟨rfl, hp1⟩ := ck_inv hp; obtain ⟨x, y, S', rfl, hp2⟩ := i2_inv hp1; cases hp2; exact XS.isub h hx rfl hd rfl hr
  case imul => obtain ⟨rfl, hp1⟩ := ck_inv hp; obtain ⟨x, y, S', rfl, hp2⟩ := i2_inv hp1; cases hp2; exact XS.imul h hx rfl hd rfl hr
  case iand => obtain ⟨rfl, hp1⟩ := ck_inv hp; obtain ⟨x, y, S', rfl, hp2⟩ := i2_inv hp1; cases hp2; exact XS.iand h hx rfl hd rfl hr
  case ior => obtain ⟨rfl, hp1⟩ := ck_inv hp; obtain ⟨x, y, S', rfl, hp2⟩ := i2_inv hp1; cases hp2; exact XT.ior h hx rfl hd rfl hr
  case ixor => obtain ⟨rfl, hp1⟩ := ck_inv hp; obtain ⟨x, y, S', rfl, hp2⟩ := i2_inv hp1; cases hp2; exact XT.ixor h hx rfl hd rfl hr
  case ishl => obtain ⟨rfl, hp1⟩ := ck_inv hp; obtain ⟨x, y, S', rfl, hp2⟩ := i2_inv hp1; cases hp2; exact XT.ishl h hx rfl hd rfl hr
  case ishr => obtain ⟨rfl, hp1⟩ := ck_inv hp; obtain ⟨x, y, S', rfl, hp2⟩ := i2_inv hp1; cases hp2; exact XT.ishr h hx rfl hd rfl hr
  case iushr => obtain ⟨rfl, hp1⟩ := ck_inv hp; obtain ⟨x, y, S', rfl, hp2⟩ := i2_inv hp1; cases hp2; exact XT.iushr h hx rfl hd rfl hr
  case irem => obtain ⟨rfl, hp1⟩ := ck_inv hp; obtain ⟨x, y, S', rfl, hp2⟩ := i2_inv hp1; obtain ⟨hy, hp3⟩ := ck_inv hp2; cases hp3; exact XS.irem h hx rfl hd rfl hy (by rw [irem_eq_mod]; exact hr)
  case idiv => obtain ⟨rfl, hp1⟩ := ck_inv hp; obtain ⟨x, y, S', rfl, hp2⟩ := i2_inv hp1; obtain ⟨hy, hp3⟩ := ck_inv hp2; cases hp3; exact XS.idiv h hx rfl hd rfl hy hr
  case ineg => obtain ⟨rfl, hp1⟩ := ck_inv hp; obtain ⟨x, S', rfl, hp2⟩ := i1_inv hp1; cases hp2; exact XS.ineg h hx rfl hd rfl hr
  case ladd => obtain ⟨rfl, hp1⟩ := ck_inv hp; obtain ⟨x, y, S', rfl, hp2⟩ := l2_inv hp1; cases hp2; exact XT.ladd h hx rfl hd rfl hr
  case lsub => obtain ⟨rfl, hp1⟩ := ck_inv hp; obtain ⟨x, y, S', rfl, hp2⟩ := l2_inv hp1; cases hp2; exact XT.lsub h hx rfl hd rfl hr
  case lmul => obtain ⟨rfl, hp1⟩ := ck_inv hp; obtain ⟨x, y, S', rfl, hp2⟩ := l2_inv hp1; cases hp2; exact XT.lmul h hx rfl hd rfl hr
  case land => obtain ⟨rfl, hp1⟩ := ck_inv hp; obtain ⟨x, y, S', rfl, hp2⟩ := l2_inv hp1; cases hp2; exact XT.land h hx rfl hd rfl hr
  case lor => obtain ⟨rfl, hp1⟩ := ck_inv hp; obtain ⟨x, y, S', rfl, hp2⟩ := l2_inv hp1; cases hp2; exact XT.lor h hx rfl hd rfl hr
  case lxor => obtain ⟨rfl, hp1⟩ := ck_inv hp; obtain ⟨x, y, S', rfl, hp2⟩ := l2_inv hp1; cases hp2; exact XT.lxor h hx rfl hd rfl hr
  case lushr => obtain ⟨rfl, hp1⟩ := ck_inv hp; obtain ⟨x, y, S', rfl, hp2⟩ := il2_inv hp1; cases hp2; exact XT.lushr h hx rfl hd rfl hr
  case lshr => obtain ⟨rfl, hp1⟩ := ck_inv hp; obtain ⟨x, y, S', rfl, hp2⟩ := il2_inv hp1; cases hp2; exact XT.lshr h hx rfl hd rfl hr
  case lshl => obtain ⟨rfl, hp1⟩ := ck_inv hp; obtain ⟨x, y, S', rfl, hp2⟩ := il2_inv hp1; cases hp2; exact XT.lshl h hx rfl hd rfl hr
  case ldiv => obtain ⟨rfl, hp1⟩ := ck_inv hp; obtain ⟨x, y, S', rfl, hp2⟩ := l2_inv hp1; obtain ⟨hy, hp3⟩ := ck_inv hp2; cases hp3; exact XT.ldiv h hx rfl hd rfl hy hr
  case lrem => obtain ⟨rfl, hp1⟩ := ck_inv hp; obtain ⟨x, y, S', rfl, hp2⟩ := l2_inv hp1; obtain ⟨hy, hp3⟩ := ck_inv hp2; cases hp3; exact XT.lrem h hx rfl hd rfl hy (by rw [lrem_mod]; exact hr)
  case lcmp => obtain ⟨rfl, hp1⟩ := ck_inv hp; obtain ⟨x, y, S', rfl, hp2⟩ := l2_inv hp1; cases hp2; exact XT.lcmp h hx rfl hd rfl hr
  case lneg => obtain ⟨rfl, hp1⟩ := ck_inv hp; obtain ⟨x, S', rfl, hp2⟩ := l1_inv hp1; cases hp2; exact XT.lneg h hx rfl hd rfl hr
  case i2l => obtain ⟨rfl, hp1⟩ := ck_inv hp; obtain ⟨x, S', rfl, hp2⟩ := i1_inv hp1; cases hp2; exact XT.i2l h hx rfl hd rfl hr
  case l2i => obtain ⟨rfl, hp1⟩ := ck_inv hp; obtain ⟨x, S', rfl, hp2⟩ := l1_inv hp1; cases hp2; exact XT.l2i h hx rfl hd rfl hr
  case i2b => obtain ⟨rfl, hp1⟩ := ck_inv hp; obtain ⟨x, S', rfl, hp2⟩ := i1_inv hp1; cases hp2; exact XT.i2b h hx rfl hd rfl hr
  case i2c => obtain ⟨rfl, hp1⟩ := ck_inv hp; obtain ⟨x, S', rfl, hp2⟩ := i1_inv hp1; cases hp2; exact XT.i2c h hx rfl hd rfl hr
  case istore_n k => obtain ⟨rfl, hp1⟩ := ck_inv hp; obtain ⟨x, S', rfl, hp2⟩ := i1_inv hp1; obtain ⟨L1, hl, rfl⟩ := st_inv hp2; exact XS.istoreN h hx rfl hd rfl hl hr
  case istore k => obtain ⟨rfl, hp1⟩ := ck_inv hp; obtain ⟨x, S', rfl, hp2⟩ := i1_inv hp1; obtain ⟨L1, hl, rfl⟩ := st_inv hp2; exact XS.istore h hx rfl hd rfl hl hr
  case lstore_n k => obtain ⟨rfl, hp1⟩ := ck_inv hp; obtain ⟨x, S', rfl, hp2⟩ := l1_inv hp1; obtain ⟨L1, hl, rfl⟩ := st_inv hp2; exact XT.lstoreN h hx rfl hd rfl hl hr
  case lstore k => obtain ⟨rfl, hp1⟩ := ck_inv hp; obtain ⟨x, S', rfl, hp2⟩ := l1_inv hp1; obtain ⟨L1, hl, rfl⟩ := st_inv hp2; exact XT.lstore h hx rfl hd rfl hl hr
  case astore_n k => obtain ⟨rfl, hp1⟩ := ck_inv hp; obtain ⟨x, S', rfl, hp2⟩ := v1_inv hp1; obtain ⟨hv, hp3⟩ := ck_inv hp2; obtain ⟨L1, hl, rfl⟩ := st_inv hp3; exact XS.astoreN h hx rfl hd rfl hv hl hr
  case astore k => obtain ⟨rfl, hp1⟩ := ck_inv hp; obtain ⟨x, S', rfl, hp2⟩ := v1_inv hp1; obtain ⟨hv, hp3⟩ := ck_inv hp2; obtain ⟨L1, hl, rfl⟩ := st_inv hp3; exact XS.astore h hx rfl hd rfl hv hl hr
  case iinc k i => obtain ⟨rfl, hp1⟩ := ck_inv hp; obtain ⟨v, hl, hp2⟩ := gi_inv hp1; obtain ⟨L1, hl', rfl⟩ := st_inv hp2; exact XS.iinc h hx rfl hd hl hl' hr
  case dup => obtain ⟨rfl, hp1⟩ := ck_inv hp; obtain ⟨x, S', rfl, hp2⟩ := v1_inv hp1; obtain ⟨hc, hp3⟩ := ck_inv hp2; cases hp3; exact XS.dup h hx rfl hd rfl hc hr
  case dup_x1 => obtain ⟨rfl, hp1⟩ := ck_inv hp; obtain ⟨y, x, S', rfl, hp2⟩ := v2_inv hp1; obtain ⟨hc, hp3⟩ := ck_inv hp2; cases hp3; exact XT.dupX1 h hx rfl hd rfl hc.1 hc.2 hr
  case pop => obtain ⟨rfl, hp1⟩ := ck_inv hp; obtain ⟨x, S', rfl, hp2⟩ := v1_inv hp1; obtain ⟨hc, hp3⟩ := ck_inv hp2; cases hp3; exact XT.pop h hx rfl hd rfl hc hr
  case goto o => obtain ⟨⟨rfl, ho⟩, hp1⟩ := ck_inv hp; cases hp1; exact XS.goto h hx rfl (pc0 := pc) rfl hd ho rfl hr
/-- a straight road: each row a pc, its instruction, its length -/
def run : List (Nat × Instr × Nat) → Fm → Option Fm
  | [], F => some F
  | (q, i, n) :: r, F => if q = F.1 then (p1 i n F.1 F.2.1 F.2.2).bind (run r) else none
theorem run_cons {q : Nat} {i : Instr} {n : Nat} {r : List (Nat × Instr × Nat)} {F F' : Fm} (hp : run ((q, i, n) :: r) F = some F') : q = F.1 ∧ ∃ F1, p1 i n F.1 F.2.1 F.2.2 = some F1 ∧ run r F1 = some F' := by
  have hp' : (if q = F.1 then (p1 i n F.1 F.2.1 F.2.2).bind (run r) else none) = some F' := hp
  by_cases hq : q = F.1
  · rw [if_pos hq] at hp'
    exact ⟨hq, Option.bind_eq_some_iff.mp hp'⟩
  · rw [if_neg hq] at hp'
    exact nomatch hp'
theorem run_sound {tb : Tables} [Ours tb] {e : Env} {below : List Frame} {T target : State} {m : MethodId} {c : Code} (h : At T m c below) (hx : tb.exec = Jvm.exec) : ∀ (seg : List (Nat × Instr × Nat)) (F F' : Fm),
    (∀ x ∈ seg, decode c.code x.1 = .ok x.2) → run seg F = some F' → Steps tb e below (T.setTop (mkF m F'.1 F'.2.1 F'.2.2)) target → Steps tb e below (T.setTop (mkF m F.1 F.2.1 F.2.2)) target := by
  intro seg
  induction seg with
  | nil => intro F F' _ hp hr; cases hp; exact hr
  | cons a r ih =>
    intro F F' hd hp hr
    obtain ⟨q, i, n⟩ := a
    obtain ⟨hq, F1, h1, h2⟩ := run_cons hp
    have hd0 := hd _ (List.mem_cons_self ..)
    rw [show ((q, i, n) : Nat × Instr × Nat).1 = q from rfl, hq] at hd0
    exact p1_sound h hx hd0 h1 (ih F1 F' (fun x hm => hd x (List.mem_cons_of_mem _ hm)) h2 hr)
theorem ef_of {m : MethodId} {args : Array Value} {n : Nat} {Ls : Array Slot} (h : Jvm.Sym.laidSlots args.toList ++ List.replicate (n - (Jvm.Sym.laidSlots args.toList).length) .unset = Ls.toList) : entryFrame m args n = mkF m 0 Ls [] := by
  have : argsToLocals args n = Ls := Array.toList_inj.mp (by rw [Jvm.Sym.argsToLocals_toList]; exact h)
  unfold entryFrame
  rw [this]
theorem lb {a b : Nat} (h : Nat.ble a b = true) : a ≤ b := Nat.le_of_ble_eq_true h
theorem tw {tbl : List Jvm.Cond} {c : Jvm.Cond} (i : Nat) (h : tbl[i]? = some c) : c ∈ tbl := List.mem_of_getElem? h
/-! ## 2. The walk's standing: G -/
section G
variable {l : Launch} {Z : State} {a0 : Array Value} {EL : List (String × Nat)} {tbl : List Jvm.Cond} {n0 : Nat} {code : ByteArray} {maxL : Nat} {ret : Option FieldType} {R : Room} {own mname : String} {Q : Option Value → Heap → Prop} {h h' h1 h2 : Heap} {cells slots pc : Nat} {L : Array Slot} {S : List Value}
def Pos (l : Launch) (Z : State) (a0 : Array Value) (EL : List (String × Nat)) (tbl : List Jvm.Cond) (n0 : Nat) (code : ByteArray) (maxL : Nat) (ret : Option FieldType) (R : Room) (own mname : String) (h : Heap) (cells slots : Nat)
    (p : Program) (e : Env) (s : State) (m : MethodId) (args : Array Value) (below : List Frame) (meth : Method) (c : Code) (T : State) (vm0 : Vm) (k0 : Nat) (locs : List Loc) : Prop :=
  p.tables.exec = Jvm.exec ∧ c.code = code ∧ c.maxLocals = maxL ∧ meth.sig.returnType = ret ∧ meth.locks = false ∧ meth.name = mname ∧ EW Z a0 EL ∧ (∀ d ∈ tbl, d.before a0 Z = true) ∧
  Stand p l e R (s.setVm vm0) m args below meth c T locs cells slots ∧ T.heap = h ∧ s.Since vm0 k0 ∧ k0 ≤ h.size ∧ Z.Warmed39 vm0 ∧ vm0.findClass own = some m.cls ∧ Fr n0 locs ∧ CHr Z EL s.vm s.heap vm0 h ∧ Old Z n0 h ∧ (EL = [] → s.WarmedH vm0)
def End (Z : State) (EL : List (String × Nat)) (n0 : Nat) (R : Room) (Q : Option Value → Heap → Prop) (s : State) (o : Outcome) (t : State) : Prop :=
  ∃ v L', o = .returned v ∧ (Fr n0 L' ∧ Old Z n0 t.heap ∧ Q v t.heap) ∧ CHr Z EL s.vm s.heap t.vm t.heap ∧ ReturnedEndW s o t L' R.cells R.slots ∧ (EL = [] → s.WarmedH t.vm)
/-- from here the walk comes to its end, and Q holds there -/
def G (l : Launch) (Z : State) (a0 : Array Value) (EL : List (String × Nat)) (tbl : List Jvm.Cond) (n0 : Nat) (code : ByteArray) (maxL : Nat) (ret : Option FieldType) (R : Room) (own mname : String) (Q : Option Value → Heap → Prop)
    (h : Heap) (cells slots pc : Nat) (L : Array Slot) (S : List Value) : Prop :=
  ∀ p e s m args below meth c T vm0 k0 locs, Pos l Z a0 EL tbl n0 code maxL ret R own mname h cells slots p e s m args below meth c T vm0 k0 locs →
    ∃ s₂ o, Steps p.tables e below (T.setTop (mkF m pc L S)) s₂ ∧ s₂.status = .running ∧ Ended s₂ below o ∧ End Z EL n0 R Q s o s₂
theorem back_steps {p : Program} {e : Env} {below : List Frame} {A B : State} {P : State → Outcome → Prop} (st : ∀ t, Steps p.tables e below B t → Steps p.tables e below A t)
    (k : ∃ s₂ o, Steps p.tables e below B s₂ ∧ s₂.status = .running ∧ Ended s₂ below o ∧ P s₂ o) : ∃ s₂ o, Steps p.tables e below A s₂ ∧ s₂.status = .running ∧ Ended s₂ below o ∧ P s₂ o := by
  obtain ⟨s₂, o, h1, h2⟩ := k; exact ⟨s₂, o, st _ h1, h2⟩
theorem G.seg (seg : List (Nat × Instr × Nat)) (hdec : ∀ x ∈ seg, decode code x.1 = .ok x.2) {pc' : Nat} {L' : Array Slot} {S' : List Value} (hrun : run seg (pc, L, S) = some (pc', L', S'))
    (k : G l Z a0 EL tbl n0 code maxL ret R own mname Q h cells slots pc' L' S') : G l Z a0 EL tbl n0 code maxL ret R own mname Q h cells slots pc L S := by
  intro p e s m args below meth c T vm0 k0 locs P
  obtain ⟨hx, hby, -, -, -, -, -, -, X, -⟩ := id P
  exact back_steps (fun t ht => run_sound X.here hx seg (pc, L, S) (pc', L', S') (fun x hm => hb hby (hdec x hm)) hrun ht) (k p e s m args below meth c T vm0 k0 locs P)
theorem G.more {cells' slots' : Nat} (hc : cells ≤ cells') (hs : slots ≤ slots') (k : G l Z a0 EL tbl n0 code maxL ret R own mname Q h cells' slots' pc L S) : G l Z a0 EL tbl n0 code maxL ret R own mname Q h cells slots pc L S := by
  intro p e s m args below meth c T vm0 k0 locs P
  obtain ⟨h1, h2, h3, h4, h5, h6, h7, h8, X, r⟩ := P
  exact k p e s m args below meth c T vm0 k0 locs ⟨h1, h2, h3, h4, h5, h6, h7, h8, X.mono hc hs, r⟩
/-- a place where roads meet: proved once -/
theorem G.join {α : Type} (P : α → Prop) (J : α → Heap × Nat × Nat × Nat × Array Slot × List Value)
    (k : (∀ x, P x → G l Z a0 EL tbl n0 code maxL ret R own mname Q (J x).1 (J x).2.1 (J x).2.2.1 (J x).2.2.2.1 (J x).2.2.2.2.1 (J x).2.2.2.2.2) → G l Z a0 EL tbl n0 code maxL ret R own mname Q h cells slots pc L S)
    (hj : ∀ x, P x → G l Z a0 EL tbl n0 code maxL ret R own mname Q (J x).1 (J x).2.1 (J x).2.2.1 (J x).2.2.2.1 (J x).2.2.2.2.1 (J x).2.2.2.2.2) : G l Z a0 EL tbl n0 code maxL ret R own mname Q h cells slots pc L S := k hj
/-! branches -/
theorem G.if0 {cd : ClassFile.Cond} {o : Int} {x : Int32} {pc' : Nat} (hd : decode code pc = .ok (.ifCond cd o, 3)) (ho : 0 ≤ (pc : Int) + o) (hp : ((pc : Int) + o).toNat = pc')
    (ky : ifCond.holds cd x = true → G l Z a0 EL tbl n0 code maxL ret R own mname Q h cells slots pc' L S) (kn : ifCond.holds cd x = false → G l Z a0 EL tbl n0 code maxL ret R own mname Q h cells slots (pc + 3) L S) :
    G l Z a0 EL tbl n0 code maxL ret R own mname Q h cells slots pc L (.int x :: S) := by
  intro p e s m args below meth c T vm0 k0 locs P
  obtain ⟨hx, hby, -, -, -, -, -, -, X, -⟩ := id P
  cases hc : ifCond.holds cd x
  · exact back_steps (fun t ht => XS.ifNo X.here hx rfl (hb hby hd) rfl hc ht) (kn hc p e s m args below meth c T vm0 k0 locs P)
  · exact back_steps (fun t ht => XS.ifYes X.here hx rfl (pc0 := pc) rfl (hb hby hd) rfl hc ho hp ht) (ky hc p e s m args below meth c T vm0 k0 locs P)
theorem G.icmp {cd : ClassFile.Cond} {o : Int} {x y : Int32} {pc' : Nat} (hd : decode code pc = .ok (.if_icmp cd o, 3)) (ho : 0 ≤ (pc : Int) + o) (hp : ((pc : Int) + o).toNat = pc')
    (ky : if_icmp.holds cd x y = true → G l Z a0 EL tbl n0 code maxL ret R own mname Q h cells slots pc' L S) (kn : if_icmp.holds cd x y = false → G l Z a0 EL tbl n0 code maxL ret R own mname Q h cells slots (pc + 3) L S) :
    G l Z a0 EL tbl n0 code maxL ret R own mname Q h cells slots pc L (.int y :: .int x :: S) := by
  intro p e s m args below meth c T vm0 k0 locs P
  obtain ⟨hx, hby, -, -, -, -, -, -, X, -⟩ := id P
  cases hc : if_icmp.holds cd x y
  · exact back_steps (fun t ht => XS.icmpNo X.here hx rfl (hb hby hd) rfl hc ht) (kn hc p e s m args below meth c T vm0 k0 locs P)
  · exact back_steps (fun t ht => XS.icmpYes X.here hx rfl (pc0 := pc) rfl (hb hby hd) rfl hc ho hp ht) (ky hc p e s m args below meth c T vm0 k0 locs P)
theorem G.ifeq {o : Int} {x : Int32} {pc' : Nat} (hd : decode code pc = .ok (.ifCond .eq o, 3)) (ho : 0 ≤ (pc : Int) + o) (hp : ((pc : Int) + o).toNat = pc')
    (ky : x = 0 → G l Z a0 EL tbl n0 code maxL ret R own mname Q h cells slots pc' L S) (kn : ¬ x = 0 → G l Z a0 EL tbl n0 code maxL ret R own mname Q h cells slots (pc + 3) L S) : G l Z a0 EL tbl n0 code maxL ret R own mname Q h cells slots pc L (.int x :: S) := by
  by_cases z : x = 0
  · exact G.if0 (cd := .eq) hd ho hp (fun _ => ky z) (fun q => absurd q (by rw [XT.i0_eq_t z]; decide))
  · exact G.if0 (cd := .eq) hd ho hp (fun q => absurd q (by rw [XT.i0_eq_f z]; decide)) (fun _ => kn z)
theorem G.ifne {o : Int} {x : Int32} {pc' : Nat} (hd : decode code pc = .ok (.ifCond .ne o, 3)) (ho : 0 ≤ (pc : Int) + o) (hp : ((pc : Int) + o).toNat = pc')
    (ky : ¬ x = 0 → G l Z a0 EL tbl n0 code maxL ret R own mname Q h cells slots pc' L S) (kn : x = 0 → G l Z a0 EL tbl n0 code maxL ret R own mname Q h cells slots (pc + 3) L S) : G l Z a0 EL tbl n0 code maxL ret R own mname Q h cells slots pc L (.int x :: S) := by
  by_cases z : x = 0
  · exact G.if0 (cd := .ne) hd ho hp (fun q => absurd q (by rw [XT.i0_ne_f z]; decide)) (fun _ => kn z)
  · exact G.if0 (cd := .ne) hd ho hp (fun _ => ky z) (fun q => absurd q (by rw [XT.i0_ne_t z]; decide))
theorem G.iflt {o : Int} {x : Int32} {pc' : Nat} (hd : decode code pc = .ok (.ifCond .lt o, 3)) (ho : 0 ≤ (pc : Int) + o) (hp : ((pc : Int) + o).toNat = pc')
    (ky : x < 0 → G l Z a0 EL tbl n0 code maxL ret R own mname Q h cells slots pc' L S) (kn : ¬ x < 0 → G l Z a0 EL tbl n0 code maxL ret R own mname Q h cells slots (pc + 3) L S) : G l Z a0 EL tbl n0 code maxL ret R own mname Q h cells slots pc L (.int x :: S) := by
  by_cases z : x < 0
  · exact G.if0 (cd := .lt) hd ho hp (fun _ => ky z) (fun q => absurd q (by rw [XT.i0_lt_t z]; decide))
  · exact G.if0 (cd := .lt) hd ho hp (fun q => absurd q (by rw [XT.i0_lt_f z]; decide)) (fun _ => kn z)
theorem G.ifge {o : Int} {x : Int32} {pc' : Nat} (hd : decode code pc = .ok (.ifCond .ge o, 3)) (ho : 0 ≤ (pc : Int) + o) (hp : ((pc : Int) + o).toNat = pc')
    (ky : ¬ x < 0 → G l Z a0 EL tbl n0 code maxL ret R own mname Q h cells slots pc' L S) (kn : x < 0 → G l Z a0 EL tbl n0 code maxL ret R own mname Q h cells slots (pc + 3) L S) : G l Z a0 EL tbl n0 code maxL ret R own mname Q h cells slots pc L (.int x :: S) := by
  by_cases z : x < 0
  · exact G.if0 (cd := .ge) hd ho hp (fun q => absurd q (by rw [XT.i0_ge_f z]; decide)) (fun _ => kn z)
  · exact G.if0 (cd := .ge) hd ho hp (fun _ => ky z) (fun q => absurd q (by rw [XT.i0_ge_t z]; decide))
theorem G.ifgt {o : Int} {x : Int32} {pc' : Nat} (hd : decode code pc = .ok (.ifCond .gt o, 3)) (ho : 0 ≤ (pc : Int) + o) (hp : ((pc : Int) + o).toNat = pc')
    (ky : 0 < x → G l Z a0 EL tbl n0 code maxL ret R own mname Q h cells slots pc' L S) (kn : ¬ 0 < x → G l Z a0 EL tbl n0 code maxL ret R own mname Q h cells slots (pc + 3) L S) : G l Z a0 EL tbl n0 code maxL ret R own mname Q h cells slots pc L (.int x :: S) := by
  by_cases z : 0 < x
  · exact G.if0 (cd := .gt) hd ho hp (fun _ => ky z) (fun q => absurd q (by rw [XT.i0_gt_t z]; decide))
  · exact G.if0 (cd := .gt) hd ho hp (fun q => absurd q (by rw [XT.i0_gt_f z]; decide)) (fun _ => kn z)
theorem G.ifle {o : Int} {x : Int32} {pc' : Nat} (hd : decode code pc = .ok (.ifCond .le o, 3)) (ho : 0 ≤ (pc : Int) + o) (hp : ((pc : Int) + o).toNat = pc')
    (ky : ¬ 0 < x → G l Z a0 EL tbl n0 code maxL ret R own mname Q h cells slots pc' L S) (kn : 0 < x → G l Z a0 EL tbl n0 code maxL ret R own mname Q h cells slots (pc + 3) L S) : G l Z a0 EL tbl n0 code maxL ret R own mname Q h cells slots pc L (.int x :: S) := by
  by_cases z : 0 < x
  · exact G.if0 (cd := .le) hd ho hp (fun q => absurd q (by rw [XT.i0_le_f z]; decide)) (fun _ => kn z)
  · exact G.if0 (cd := .le) hd ho hp (fun _ => ky z) (fun q => absurd q (by rw [XT.i0_le_t z]; decide))
theorem G.iceq {o : Int} {x y : Int32} {pc' : Nat} (hd : decode code pc = .ok (.if_icmp .eq o, 3)) (ho : 0 ≤ (pc : Int) + o) (hp : ((pc : Int) + o).toNat = pc')
    (ky : x = y → G l Z a0 EL tbl n0 code maxL ret R own mname Q h cells slots pc' L S) (kn : ¬ x = y → G l Z a0 EL tbl n0 code maxL ret R own mname Q h cells slots (pc + 3) L S) : G l Z a0 EL tbl n0 code maxL ret R own mname Q h cells slots pc L (.int y :: .int x :: S) := by
  by_cases z : x = y
  · exact G.icmp (cd := .eq) hd ho hp (fun _ => ky z) (fun q => absurd q (by rw [XT.ii_eq_t z]; decide))
  · exact G.icmp (cd := .eq) hd ho hp (fun q => absurd q (by rw [XT.ii_eq_f z]; decide)) (fun _ => kn z)
theorem G.icne {o : Int} {x y : Int32} {pc' : Nat} (hd : decode code pc = .ok (.if_icmp .ne o, 3)) (ho : 0 ≤ (pc : Int) + o) (hp : ((pc : Int) + o).toNat = pc')
    (ky : ¬ x = y → G l Z a0 EL tbl n0 code maxL ret R own mname Q h cells slots pc' L S) (kn : x = y → G l Z a0 EL tbl n0 code maxL ret R own mname Q h cells slots (pc + 3) L S) : G l Z a0 EL tbl n0 code maxL ret R own mname Q h cells slots pc L (.int y :: .int x :: S) := by
  by_cases z : x = y
  · exact G.icmp (cd := .ne) hd ho hp (fun q => absurd q (by rw [XT.ii_ne_f z]; decide)) (fun _ => kn z)
  · exact G.icmp (cd := .ne) hd ho hp (fun _ => ky z) (fun q => absurd q (by rw [XT.ii_ne_t z]; decide))
theorem G.iclt {o : Int} {x y : Int32} {pc' : Nat} (hd : decode code pc = .ok (.if_icmp .lt o, 3)) (ho : 0 ≤ (pc : Int) + o) (hp : ((pc : Int) + o).toNat = pc')
    (ky : x < y → G l Z a0 EL tbl n0 code maxL ret R own mname Q h cells slots pc' L S) (kn : ¬ x < y → G l Z a0 EL tbl n0 code maxL ret R own mname Q h cells slots (pc + 3) L S) : G l Z a0 EL tbl n0 code maxL ret R own mname Q h cells slots pc L (.int y :: .int x :: S) := by
  by_cases z : x < y
  · exact G.icmp (cd := .lt) hd ho hp (fun _ => ky z) (fun q => absurd q (by rw [XT.ii_lt_t z]; decide))
  · exact G.icmp (cd := .lt) hd ho hp (fun q => absurd q (by rw [XT.ii_lt_f z]; decide)) (fun _ => kn z)
theorem G.icge {o : Int} {x y : Int32} {pc' : Nat} (hd : decode code pc = .ok (.if_icmp .ge o, 3)) (ho : 0 ≤ (pc : Int) + o) (hp : ((pc : Int) + o).toNat = pc')
    (ky : ¬ x < y → G l Z a0 EL tbl n0 code maxL ret R own mname Q h cells slots pc' L S) (kn : x < y → G l Z a0 EL tbl n0 code maxL ret R own mname Q h cells slots (pc + 3) L S) : G l Z a0 EL tbl n0 code maxL ret R own mname Q h cells slots pc L (.int y :: .int x :: S) := by
  by_cases z : x < y
  · exact G.icmp (cd := .ge) hd ho hp (fun q => absurd q (by rw [XT.ii_ge_f z]; decide)) (fun _ => kn z)
  · exact G.icmp (cd := .ge) hd ho hp (fun _ => ky z) (fun q => absurd q (by rw [XT.ii_ge_t z]; decide))
theorem G.icgt {o : Int} {x y : Int32} {pc' : Nat} (hd : decode code pc = .ok (.if_icmp .gt o, 3)) (ho : 0 ≤ (pc : Int) + o) (hp : ((pc : Int) + o).toNat = pc')
    (ky : y < x → G l Z a0 EL tbl n0 code maxL ret R own mname Q h cells slots pc' L S) (kn : ¬ y < x → G l Z a0 EL tbl n0 code maxL ret R own mname Q h cells slots (pc + 3) L S) : G l Z a0 EL tbl n0 code maxL ret R own mname Q h cells slots pc L (.int y :: .int x :: S) := by
  by_cases z : y < x
  · exact G.icmp (cd := .gt) hd ho hp (fun _ => ky z) (fun q => absurd q (by rw [XT.ii_gt_t z]; decide))
  · exact G.icmp (cd := .gt) hd ho hp (fun q => absurd q (by rw [XT.ii_gt_f z]; decide)) (fun _ => kn z)
theorem G.icle {o : Int} {x y : Int32} {pc' : Nat} (hd : decode code pc = .ok (.if_icmp .le o, 3)) (ho : 0 ≤ (pc : Int) + o) (hp : ((pc : Int) + o).toNat = pc')
    (ky : ¬ y < x → G l Z a0 EL tbl n0 code maxL ret R own mname Q h cells slots pc' L S) (kn : y < x → G l Z a0 EL tbl n0 code maxL ret R own mname Q h cells slots (pc + 3) L S) : G l Z a0 EL tbl n0 code maxL ret R own mname Q h cells slots pc L (.int y :: .int x :: S) := by
  by_cases z : y < x
  · exact G.icmp (cd := .le) hd ho hp (fun q => absurd q (by rw [XT.ii_le_f z]; decide)) (fun _ => kn z)
  · exact G.icmp (cd := .le) hd ho hp (fun _ => ky z) (fun q => absurd q (by rw [XT.ii_le_t z]; decide))
theorem G.nulljmp {o : Int} {w : Value} {pc' : Nat} (hw : w.isRef = true) (hd : decode code pc = .ok (.ifnull o, 3)) (ho : 0 ≤ (pc : Int) + o) (hp : ((pc : Int) + o).toNat = pc')
    (ky : w = .null → G l Z a0 EL tbl n0 code maxL ret R own mname Q h cells slots pc' L S) (kn : ¬ w = .null → G l Z a0 EL tbl n0 code maxL ret R own mname Q h cells slots (pc + 3) L S) : G l Z a0 EL tbl n0 code maxL ret R own mname Q h cells slots pc L (w :: S) := by
  intro p e s m args below meth c T vm0 k0 locs P
  obtain ⟨hx, hby, -, -, -, -, -, -, X, -⟩ := id P
  rcases ref_cases hw with rfl | ⟨a, rfl⟩
  · exact back_steps (fun t ht => XS.ifnullYes X.here hx rfl (pc0 := pc) rfl (hb hby hd) rfl ho hp ht) (ky rfl p e s m args below meth c T vm0 k0 locs P)
  · exact back_steps (fun t ht => XS.ifnullNo X.here hx rfl (hb hby hd) rfl ht) (kn (fun q => nomatch q) p e s m args below meth c T vm0 k0 locs P)
theorem G.nonnulljmp {o : Int} {w : Value} {pc' : Nat} (hw : w.isRef = true) (hd : decode code pc = .ok (.ifnonnull o, 3)) (ho : 0 ≤ (pc : Int) + o) (hp : ((pc : Int) + o).toNat = pc')
    (ky : ¬ w = .null → G l Z a0 EL tbl n0 code maxL ret R own mname Q h cells slots pc' L S) (kn : w = .null → G l Z a0 EL tbl n0 code maxL ret R own mname Q h cells slots (pc + 3) L S) : G l Z a0 EL tbl n0 code maxL ret R own mname Q h cells slots pc L (w :: S) := by
  intro p e s m args below meth c T vm0 k0 locs P
  obtain ⟨hx, hby, -, -, -, -, -, -, X, -⟩ := id P
  rcases ref_cases hw with rfl | ⟨a, rfl⟩
  · exact back_steps (fun t ht => XT.ifnonnullNo X.here hx rfl (hb hby hd) rfl ht) (kn rfl p e s m args below meth c T vm0 k0 locs P)
  · exact back_steps (fun t ht => XT.ifnonnullYes X.here hx rfl (pc0 := pc) rfl (hb hby hd) rfl ho hp ht) (ky (fun q => nomatch q) p e s m args below meth c T vm0 k0 locs P)
theorem G.acne {o : Int} {x y : Value} {pc' : Nat} (hx1 : x.isRef = true) (hy1 : y.isRef = true) (hd : decode code pc = .ok (.if_acmp .ne o, 3)) (ho : 0 ≤ (pc : Int) + o) (hp : ((pc : Int) + o).toNat = pc')
    (ky : ¬ x = y → G l Z a0 EL tbl n0 code maxL ret R own mname Q h cells slots pc' L S) (kn : x = y → G l Z a0 EL tbl n0 code maxL ret R own mname Q h cells slots (pc + 3) L S) : G l Z a0 EL tbl n0 code maxL ret R own mname Q h cells slots pc L (y :: x :: S) := by
  intro p e s m args below meth c T vm0 k0 locs P
  obtain ⟨hx, hby, -, -, -, -, -, -, X, -⟩ := id P
  by_cases z : x = y
  · exact back_steps (fun t ht => XT.acmpNo X.here hx rfl (hb hby hd) rfl hx1 hy1 (XT.aa_ne_f z) ht) (kn z p e s m args below meth c T vm0 k0 locs P)
  · exact back_steps (fun t ht => XT.acmpYes X.here hx rfl (pc0 := pc) rfl (hb hby hd) rfl hx1 hy1 (XT.aa_ne_t z) ho hp ht) (ky z p e s m args below meth c T vm0 k0 locs P)
theorem G.aceq {o : Int} {x y : Value} {pc' : Nat} (hx1 : x.isRef = true) (hy1 : y.isRef = true) (hd : decode code pc = .ok (.if_acmp .eq o, 3)) (ho : 0 ≤ (pc : Int) + o) (hp : ((pc : Int) + o).toNat = pc')
    (ky : x = y → G l Z a0 EL tbl n0 code maxL ret R own mname Q h cells slots pc' L S) (kn : ¬ x = y → G l Z a0 EL tbl n0 code maxL ret R own mname Q h cells slots (pc + 3) L S) : G l Z a0 EL tbl n0 code maxL ret R own mname Q h cells slots pc L (y :: x :: S) := by
  intro p e s m args below meth c T vm0 k0 locs P
  obtain ⟨hx, hby, -, -, -, -, -, -, X, -⟩ := id P
  by_cases z : x = y
  · exact back_steps (fun t ht => XT.acmpYes X.here hx rfl (pc0 := pc) rfl (hb hby hd) rfl hx1 hy1 (XT.aa_eq_t z) ho hp ht) (ky z p e s m args below meth c T vm0 k0 locs P)
  · exact back_steps (fun t ht => XT.acmpNo X.here hx rfl (hb hby hd) rfl hx1 hy1 (XT.aa_eq_f z) ht) (kn z p e s m args below meth c T vm0 k0 locs P)
/-! the heap -/
theorem safe_nil {vm : Vm} {a : Addr} (q : EL = []) : Safe Z EL vm h a := fun B => by
  obtain ⟨p, hp, -⟩ := B
  rw [q] at hp; cases hp
theorem G.new {C : String} {idx n : Nat} (hd : decode code pc = .ok (.new idx, 3)) (w1 : Jvm.Cond.classLink own idx C ∈ tbl) (w2 : Jvm.Cond.instantiable C n ∈ tbl) (w3 : Jvm.Cond.initialized C ∈ tbl) (hc : cells + 1 ≤ R.cells) (hl : slots + n ≤ R.slots)
    (k : ∀ h' a, a = h.size → n0 ≤ a → Keep h h' [] → Exa Z h' a C → (∀ {O nm d : String} {ty : FieldType}, (Jvm.Cond.lays C O nm d ∈ tbl ∨ Jvm.Cond.laysFinal C O nm d ∈ tbl) → parseFieldDescriptor d = some ty → Fld Z h' a O nm d (defaultValue ty)) → G l Z a0 EL tbl n0 code maxL ret R own mname Q h' (cells + 1) (slots + n) (pc + 3) L (.ref a :: S)) :
    G l Z a0 EL tbl n0 code maxL ret R own mname Q h cells slots pc L S := by
  intro p e s m args below meth c T vm0 k0 locs P
  obtain ⟨hx, hby, hml, hret, hlk, hnm, hEL, hw, X, eT, hS, hk, hZ, hown, N, H, O, Wm⟩ := P
  obtain ⟨T', h', X', e', E, A, D, -, st⟩ := newO X hx hZ hown (hw _ w1) (hw _ w2) (hw _ w3) eT (g := mkF m pc L S) rfl (hb hby hd) hc hl
  exact back_steps st (k h' h.size rfl (O.1 ▸ O.2.1) ((Keep.refl h []).ext E) A (fun q => D (q.imp (hw _) (hw _))) p e s m args below meth c T' vm0 k0 locs ⟨hx, hby, hml, hret, hlk, hnm, hEL, hw, X', e', hS, Nat.le_trans hk E.1, hZ, hown, N, H.trans (CHr.ext E H.1), O.ext E, Wm⟩)
theorem G.newarr {aty : ArrayType} {ty : FieldType} {n : Int32} {cap : Nat} (hty : newarray.typeOf aty = ty) (hd : decode code pc = .ok (.newarray aty, 2)) (w : Jvm.Cond.arrayClass ty ∈ tbl) (hn : ¬ n < 0) (hcap : n.toNatClampNeg ≤ cap) (hb8 : cap * 8 ≤ 536870912) (hc : cells + 1 ≤ R.cells) (hl : slots + cap ≤ R.slots)
    (k : ∀ h' a kA, a = h.size → n0 ≤ a → Keep h h' [] → Arv Z h' a kA ty n (List.replicate cap (defaultValue ty)) (defaultValue ty) → G l Z a0 EL tbl n0 code maxL ret R own mname Q h' (cells + 1) (slots + cap) (pc + 2) L (.ref a :: S)) :
    G l Z a0 EL tbl n0 code maxL ret R own mname Q h cells slots pc L (.int n :: S) := by
  subst hty
  intro p e s m args below meth c T vm0 k0 locs P
  obtain ⟨hx, hby, hml, hret, hlk, hnm, hEL, hw, X, eT, hS, hk, hZ, hown, N, H, O, Wm⟩ := P
  obtain ⟨T', h', cA, X', e', E, A, st⟩ := newP X hx hZ (hw _ w) eT (g := mkF m pc L (.int n :: S)) rfl (hb hby hd) rfl hn hcap hb8 hc hl
  exact back_steps st (k h' h.size cA rfl (O.1 ▸ O.2.1) ((Keep.refl h []).ext E) ((Arv.new A hn).pad (fun i => by simpa using pad_rep [] (defaultValue (newarray.typeOf aty)) cap i)) p e s m args below meth c T' vm0 k0 locs ⟨hx, hby, hml, hret, hlk, hnm, hEL, hw, X', e', hS, Nat.le_trans hk E.1, hZ, hown, N, H.trans (CHr.ext E H.1), O.ext E, Wm⟩)
theorem G.castore {a : Addr} {kA : ClassId} {z j x x' : Int32} {vs : List Value} {dv : Value} {i : Nat} (hd : decode code pc = .ok (.castore, 1)) (A : Arv Z h a kA .char z vs dv) (ha : n0 ≤ a) (hj : ¬ j < 0 ∧ j < z) (hi : j.toNatClampNeg = i) (hlen : i < vs.length) (hx' : nar .char x = x')
    (k : ∀ h', Keep h h' [a] → Arv Z h' a kA .char z (vs.set i (.int x')) dv → G l Z a0 EL tbl n0 code maxL ret R own mname Q h' cells slots (pc + 1) L S) :
    G l Z a0 EL tbl n0 code maxL ret R own mname Q h cells slots pc L (.int x :: .int j :: .ref a :: S) := by
  subst hx'
  intro p e s m args below meth c T vm0 k0 locs P
  obtain ⟨hx, hby, hml, hret, hlk, hnm, hEL, hw, X, eT, hS, hk, hZ, hown, N, H, O, Wm⟩ := P
  obtain ⟨cl, A1, A2, A3, A4, A5, A6⟩ := A
  obtain ⟨T', h', X', e', W, st⟩ := stC X hx hZ eT A1 (inb_of A3 hj) (g := mkF m pc L (.int x :: .int j :: .ref a :: S)) rfl rfl (hb hby hd)
  have sf : Safe Z EL vm0 h a := Safe.arr (Z := Z) hZ.alike A1 (by decide)
  exact back_steps st (k h' (Keep.of_wr W) (Arv.set A1 A2 A3 A4 A5 A6 (fits_nar_char x) W i hi hlen) p e s m args below meth c T' vm0 k0 _ ⟨hx, hby, hml, hret, hlk, hnm, hEL, hw, X', e', hS, by rw [W.size]; exact hk, hZ, hown, Fr.snoc X' N ha, H.trans (CHr.wr W sf H.1), O.wr W ha, Wm⟩)
theorem G.getF {a : Addr} {O nm d : String} {v : Value} {idx : Nat} (hd : decode code pc = .ok (.getfield idx, 3)) (w : Jvm.Cond.fieldLink own idx O nm d ∈ tbl) (F : Fld Z h a O nm d v)
    (k : G l Z a0 EL tbl n0 code maxL ret R own mname Q h cells slots (pc + 3) L (v :: S)) : G l Z a0 EL tbl n0 code maxL ret R own mname Q h cells slots pc L (.ref a :: S) := by
  intro p e s m args below meth c T vm0 k0 locs P
  obtain ⟨hx, hby, hml, hret, hlk, hnm, hEL, hw, X, eT, hS, hk, hZ, hown, N, H, O, Wm⟩ := P
  obtain ⟨T', X', e', st⟩ := Jvm.RoadKit.getF X hx hZ hown (host := "") (Or.inl (hw _ w)) Via.refl eT F (g := mkF m pc L (.ref a :: S)) rfl rfl (hb hby hd)
  exact back_steps st (k p e s m args below meth c T' vm0 k0 locs ⟨hx, hby, hml, hret, hlk, hnm, hEL, hw, X', e', hS, hk, hZ, hown, N, H, O, Wm⟩)
theorem G.putF {a : Addr} {C O nm d : String} {v old : Value} {idx kk : Nat} {ty : FieldType} (hd : decode code pc = .ok (.putfield idx, 3)) (w : Jvm.Cond.fieldLink own idx O nm d ∈ tbl) (F : Fld Z h a O nm d old) (E : Exa Z h a C)
    (wl : Jvm.Cond.lays C O nm d ∈ tbl ∨ (Jvm.Cond.laysFinal C O nm d ∈ tbl ∧ own = O ∧ mname = "<init>")) (wi : Jvm.Cond.instantiable C kk ∈ tbl) (hty : parseFieldDescriptor d = some ty) (hn : narrow ty v = v) (hf : fits ty v = true) (ha : n0 ≤ a) (hc : EL = [] ∨ (C ≠ "java/lang/String" ∧ C ≠ "[B"))
    (k : ∀ h', Wr h h' a (Jvm.RoadKit.slotOf Z O nm d) v → Keep h h' [a] → Fld Z h' a O nm d v → Exa Z h' a C → G l Z a0 EL tbl n0 code maxL ret R own mname Q h' cells slots (pc + 3) L S) :
    G l Z a0 EL tbl n0 code maxL ret R own mname Q h cells slots pc L (v :: .ref a :: S) := by
  intro p e s m args below meth c T vm0 k0 locs P
  obtain ⟨hx, hby, hml, hret, hlk, hnm, hEL, hw, X, eT, hS, hk, hZ, hown, N, H, O, Wm⟩ := P
  obtain ⟨T', h', X', e', W, st⟩ := Jvm.RoadKit.putF X hx hZ hown (host := "") (Or.inl (hw _ w)) Via.refl eT F E (wl.imp (hw _) fun q => ⟨hw _ q.1, q.2.1, hnm.trans q.2.2⟩) (hw _ wi) hty hn hf (g := mkF m pc L (v :: .ref a :: S)) rfl rfl (hb hby hd)
  have sf : Safe Z EL vm0 h a := hc.elim (fun q => safe_nil q) fun q => Safe.exa (Z := Z) hZ.alike E q.1 q.2
  exact back_steps st (k h' W (Keep.of_wr W) (F.same W) (E.wr W) p e s m args below meth c T' vm0 k0 _ ⟨hx, hby, hml, hret, hlk, hnm, hEL, hw, X', e', hS, by rw [W.size]; exact hk, hZ, hown, Fr.snoc X' N ha, H.trans (CHr.wr W sf H.1), O.wr W ha, Wm⟩)
theorem G.getS {O nm d : String} {v : Value} {idx : Nat} (hd : decode code pc = .ok (.getstatic idx, 3)) (w : Jvm.Cond.fieldLink own idx O nm d ∈ tbl) (F : Sta Z Z.heap O nm d v)
    (k : G l Z a0 EL tbl n0 code maxL ret R own mname Q h cells slots (pc + 3) L (v :: S)) : G l Z a0 EL tbl n0 code maxL ret R own mname Q h cells slots pc L S := by
  intro p e s m args below meth c T vm0 k0 locs P
  obtain ⟨hx, hby, hml, hret, hlk, hnm, hEL, hw, X, eT, hS, hk, hZ, hown, N, H, O, Wm⟩ := P
  obtain ⟨T', X', e', st⟩ := Jvm.RoadKit.getS (host := "") X hx hZ hown (hw _ w) Via.refl eT (F.ext O.2) (g := mkF m pc L S) rfl (hb hby hd)
  exact back_steps st (k p e s m args below meth c T' vm0 k0 locs ⟨hx, hby, hml, hret, hlk, hnm, hEL, hw, X', e', hS, hk, hZ, hown, N, H, O, Wm⟩)
theorem G.getSN {O nm d host : String} {v : Value} {idx : Nat} (hd : decode code pc = .ok (.getstatic idx, 3)) (w : Jvm.Cond.fieldLinkNest own idx O nm d host ∈ tbl) (F : Sta Z Z.heap O nm d v)
    (k : G l Z a0 EL tbl n0 code maxL ret R own mname Q h cells slots (pc + 3) L (v :: S)) : G l Z a0 EL tbl n0 code maxL ret R own mname Q h cells slots pc L S := by
  intro p e s m args below meth c T vm0 k0 locs P
  obtain ⟨hx, hby, hml, hret, hlk, hnm, hEL, hw, X, eT, hS, hk, hZ, hown, N, H, O, Wm⟩ := P
  obtain ⟨T', X', e', st⟩ := Jvm.RoadKit.getS2 (host := host) X hx hZ hown (Or.inr (hw _ w)) Via.refl eT (F.ext O.2) (g := mkF m pc L S) rfl (hb hby hd)
  exact back_steps st (k p e s m args below meth c T' vm0 k0 locs ⟨hx, hby, hml, hret, hlk, hnm, hEL, hw, X', e', hS, hk, hZ, hown, N, H, O, Wm⟩)
theorem G.initO {a : Addr} {idx W : Nat} (hd : decode code pc = .ok (.invokespecial idx, 3)) (w1 : Jvm.Cond.methodLink own idx Lib.objectInit ∈ tbl) (w2 : Jvm.Cond.instanceMethod Lib.objectInit ∈ tbl) (w3 : Jvm.Cond.code Lib.objectInit ⟨#[0xb1]⟩ 1 none ∈ tbl) (hsz : L.size = maxL) (hf : 1 ≤ R.frames) (hW : 2 * 0 + (S.map fun v => v.category).sum ≤ W) (hl : W + 12 ≤ R.locals)
    (k : G l Z a0 EL tbl n0 code maxL ret R own mname Q h cells slots (pc + 3) L S) : G l Z a0 EL tbl n0 code maxL ret R own mname Q h cells slots pc L (.ref a :: S) := by
  intro p e s m args below meth c T vm0 k0 locs P
  obtain ⟨hx, hby, hml, hret, hlk, hnm, hEL, hw, X, eT, hS, hk, hZ, hown, N, H, O, Wm⟩ := P
  obtain ⟨T', X', e', st⟩ := Jvm.RoadKit.initO X hx hZ hown (hw _ w1) (hw _ w2) (hw _ w3) eT (g := mkF m pc L (.ref a :: S)) rfl (hsz.trans hml.symm) rfl (hb hby hd) hf hW hl
  exact back_steps st (k p e s m args below meth c T' vm0 k0 locs ⟨hx, hby, hml, hret, hlk, hnm, hEL, hw, X', e', hS, hk, hZ, hown, N, H, O, Wm⟩)
theorem G.castY {a : Addr} {K : String} {idx : Nat} (hd : decode code pc = .ok (.checkcast idx, 3)) (w : Jvm.Cond.classLink own idx K ∈ tbl) (F : Ins Z h a K true)
    (k : G l Z a0 EL tbl n0 code maxL ret R own mname Q h cells slots (pc + 3) L (.ref a :: S)) : G l Z a0 EL tbl n0 code maxL ret R own mname Q h cells slots pc L (.ref a :: S) := by
  intro p e s m args below meth c T vm0 k0 locs P
  obtain ⟨hx, hby, hml, hret, hlk, hnm, hEL, hw, X, eT, hS, hk, hZ, hown, N, H, O, Wm⟩ := P
  obtain ⟨T', X', e', st⟩ := Jvm.RoadKit.castY X hx hZ hown (hw _ w) eT F (g := mkF m pc L (.ref a :: S)) rfl rfl (hb hby hd)
  exact back_steps st (k p e s m args below meth c T' vm0 k0 locs ⟨hx, hby, hml, hret, hlk, hnm, hEL, hw, X', e', hS, hk, hZ, hown, N, H, O, Wm⟩)
theorem G.instY {a : Addr} {K : String} {idx : Nat} (hd : decode code pc = .ok (.instanceof idx, 3)) (w : Jvm.Cond.classLink own idx K ∈ tbl) (F : Ins Z h a K true)
    (k : G l Z a0 EL tbl n0 code maxL ret R own mname Q h cells slots (pc + 3) L (.int 1 :: S)) : G l Z a0 EL tbl n0 code maxL ret R own mname Q h cells slots pc L (.ref a :: S) := by
  intro p e s m args below meth c T vm0 k0 locs P
  obtain ⟨hx, hby, hml, hret, hlk, hnm, hEL, hw, X, eT, hS, hk, hZ, hown, N, H, O, Wm⟩ := P
  obtain ⟨T', X', e', st⟩ := Jvm.RoadKit.instY X hx hZ hown (hw _ w) eT F (g := mkF m pc L (.ref a :: S)) rfl rfl (hb hby hd)
  exact back_steps st (k p e s m args below meth c T' vm0 k0 locs ⟨hx, hby, hml, hret, hlk, hnm, hEL, hw, X', e', hS, hk, hZ, hown, N, H, O, Wm⟩)
theorem G.ldcO {idx n : Nat} {text : String} (hne : EL ≠ []) (hd : decode code pc = .ok (.ldc idx, 2)) (w : Jvm.Cond.stringLink own idx text ∈ tbl) (wS : ∀ d ∈ Bundle.stringAtoms, d ∈ tbl) (hn : 4 * text.toList.length ≤ n) (hbig : n ≤ 536870912) (hc : cells + 2 ≤ R.cells) (hl : slots + (n + 4) ≤ R.slots)
    (k : ∀ h' a, Keep h h' [] → G l Z a0 EL tbl n0 code maxL ret R own mname Q h' (cells + 2) (slots + (n + 4)) (pc + 2) L (.ref a :: S)) : G l Z a0 EL tbl n0 code maxL ret R own mname Q h cells slots pc L S := by
  intro p e s m args below meth c T vm0 k0 locs P
  obtain ⟨hx, hby, hml, hret, hlk, hnm, hEL, hw, X, eT, hS, hk, hZ, hown, N, H, O, Wm⟩ := P
  obtain ⟨a, T', h', k1, X', e', E, S', hk', Z', o', C', -, st⟩ := ldcOH X hx hZ hown (hw _ w) (fun d hd => hw d (wS d hd)) eT hS hk hEL H.1 (g := mkF m pc L S) rfl (hb hby hd) hn hbig hc hl
  exact back_steps st (k h' a ((Keep.refl h []).ext E) p e s m args below meth c T' T'.vm k1 locs ⟨hx, hby, hml, hret, hlk, hnm, hEL, hw, X', e', S', hk', Z', o', N, H.trans C', O.ext E, fun q => absurd q hne⟩)
theorem G.ldcC {idx n : Nat} {text : String} {vs : List Value} {z : Int32} (hne : EL ≠ []) (hd : decode code pc = .ok (.ldc idx, 2)) (w : Jvm.Cond.stringLink own idx text ∈ tbl) (wS : ∀ d ∈ Bundle.stringAtoms, d ∈ tbl) (hmem : (own, idx) ∈ EL) (ht : (∀ c ∈ text.toList, c.toNat < 256) ∧ text.toList.map (fun c => Value.int (Jvm.Lit.byteI c.toNat.toUInt16)) = vs) (hz : ¬ z < 0) (hzl : z.toNatClampNeg = vs.length)
    (hn : 4 * text.toList.length ≤ n) (hbig : n ≤ 536870912) (hc : cells + 2 ≤ R.cells) (hl : slots + (n + 4) ≤ R.slots)
    (k : ∀ h' a b kb, Keep h h' [] → Exa Z h' a "java/lang/String" → Fld Z h' a "java/lang/String" "coder" "B" (.int 0) → Fld Z h' a "java/lang/String" "value" "[B" (.ref b) → Arv Z h' b kb .byte z vs (.int 0) → G l Z a0 EL tbl n0 code maxL ret R own mname Q h' (cells + 2) (slots + (n + 4)) (pc + 2) L (.ref a :: S)) : G l Z a0 EL tbl n0 code maxL ret R own mname Q h cells slots pc L S := by
  intro p e s m args below meth c T vm0 k0 locs P
  obtain ⟨hx, hby, hml, hret, hlk, hnm, hEL, hw, X, eT, hS, hk, hZ, hown, N, H, O, Wm⟩ := P
  obtain ⟨a, T', h', k1, b, kb, X', e', E, S', hk', Z', o', Ea, Ca, Va, Ab, -, -, C', -, -, st⟩ := ldcCH X hx hZ hown (hw _ w) (fun d hd => hw d (wS d hd)) eT hS hk hEL hmem H.1 ht hz hzl (g := mkF m pc L S) rfl (hb hby hd) hn hbig hc hl
  exact back_steps st (k h' a b kb ((Keep.refl h []).ext E) Ea Ca Va Ab p e s m args below meth c T' T'.vm k1 locs ⟨hx, hby, hml, hret, hlk, hnm, hEL, hw, X', e', S', hk', Z', o', N, H.trans C', O.ext E, fun q => absurd q hne⟩)
theorem G.castN {idx : Nat} (hd : decode code pc = .ok (.checkcast idx, 3)) (k : G l Z a0 EL tbl n0 code maxL ret R own mname Q h cells slots (pc + 3) L (.null :: S)) : G l Z a0 EL tbl n0 code maxL ret R own mname Q h cells slots pc L (.null :: S) := by
  intro p e s m args below meth c T vm0 k0 locs P
  obtain ⟨hx, hby, -, -, -, -, -, -, X, -⟩ := id P
  exact back_steps (X.checkcastNull hx (g := mkF m pc L (.null :: S)) rfl rfl (hb hby hd)) (k p e s m args below meth c T vm0 k0 locs P)
theorem G.instNull {idx : Nat} (hd : decode code pc = .ok (.instanceof idx, 3)) (k : G l Z a0 EL tbl n0 code maxL ret R own mname Q h cells slots (pc + 3) L (.int 0 :: S)) : G l Z a0 EL tbl n0 code maxL ret R own mname Q h cells slots pc L (.null :: S) := by
  intro p e s m args below meth c T vm0 k0 locs P
  obtain ⟨hx, hby, -, -, -, -, -, -, X, -⟩ := id P
  exact back_steps (X.instanceofNull hx (g := mkF m pc L (.null :: S)) rfl rfl (hb hby hd)) (k p e s m args below meth c T vm0 k0 locs P)
theorem G.instNo {a : Addr} {C K : String} {idx : Nat} (hd : decode code pc = .ok (.instanceof idx, 3)) (w : Jvm.Cond.classLink own idx K ∈ tbl) (E : Exa Z h a C) (F : ∃ c t, Z.vm.findClass C = some c ∧ Z.vm.findClass K = some t ∧ Z.vm.assignable c t = false)
    (k : G l Z a0 EL tbl n0 code maxL ret R own mname Q h cells slots (pc + 3) L (.int 0 :: S)) : G l Z a0 EL tbl n0 code maxL ret R own mname Q h cells slots pc L (.ref a :: S) := by
  intro p e s m args below meth c T vm0 k0 locs P
  obtain ⟨hx, hby, hml, hret, hlk, hnm, hEL, hw, X, eT, hS, hk, hZ, hown, N, H, O, Wm⟩ := P
  obtain ⟨T', X', e', st⟩ := Jvm.RoadKit.instNo X hx hZ hown (hw _ w) eT E F (g := mkF m pc L (.ref a :: S)) rfl rfl (hb hby hd)
  exact back_steps st (k p e s m args below meth c T' vm0 k0 locs ⟨hx, hby, hml, hret, hlk, hnm, hEL, hw, X', e', hS, hk, hZ, hown, N, H, O, Wm⟩)
theorem past {C O n d O' n' d' : String} {t t' : FieldType} {a : Addr} {v v' : Value} (hw : ∀ d ∈ tbl, d.before a0 Z = true) (L1 : Jvm.Cond.lays C O n d ∈ tbl ∨ Jvm.Cond.laysFinal C O n d ∈ tbl) (L2 : Jvm.Cond.lays C O' n' d' ∈ tbl ∨ Jvm.Cond.laysFinal C O' n' d' ∈ tbl) (hn : n ≠ n') (ht : parseFieldDescriptor d = some t) (ht' : parseFieldDescriptor d' = some t')
    (W : Wr h h' a (Jvm.RoadKit.slotOf Z O' n' d') v') (F : Fld Z h a O n d v) : Fld Z h' a O n d v := F.other W (Or.inr (Jvm.RoadKit.slot_ne (a0 := a0) (L1.imp (hw _) (hw _)) (L2.imp (hw _) (hw _)) hn ht ht'))
/-- an object of C (whose superclass is O, which has none) is none of K, K an ordinary class -/
theorem not_inst {C O K : String} {n : Nat} (w1 : (Jvm.Cond.superclass C O).before a0 Z = true) (w2 : (Jvm.Cond.noSuperclass O).before a0 Z = true) (w3 : (Jvm.Cond.instantiable K n).before a0 Z = true) (h1 : C ≠ K) (h2 : O ≠ K) : ∃ c t, Z.vm.findClass C = some c ∧ Z.vm.findClass K = some t ∧ Z.vm.assignable c t = false := by
  obtain ⟨t, k', g0, g2, g5, g7x, -⟩ := Cond.instantiable_spec w3
  have g7 := (Bool.or_eq_false_iff.mp g7x).1
  obtain ⟨o, ko, r1, r2, r3, -, -⟩ := Cond.noSuperclass_spec w2
  obtain ⟨c, h0⟩ := found_sup w1
  obtain ⟨p, k, kp, q1, q2, q3, q4, q5, -, q7⟩ := Cond.superclass_spec h0 w1
  cases r1.symm.trans q1
  have e1 := ids_ne h0 g0 h1
  have e2 := ids_ne r1 g0 h2
  have ns : ∀ fuel, Z.vm.isSubclassAux fuel c t = false := fun fuel => by
    cases fuel with
    | zero => rfl
    | succ f => cases f with
      | zero => simp [Vm.isSubclassAux, e1, q2, q4]
      | succ f => simp [Vm.isSubclassAux, e1, q2, q4, e2, r2, r3]
  refine ⟨c, t, h0, g0, ?_⟩
  show Z.vm.assignableAux (255 + 1) c t = false
  simp [Vm.assignableAux, e1, q2, g2, q5, g5, g7, Vm.isSubclass, ns]
theorem G.aloadVn {k : Fin 4} {v : Value} (hd : decode code pc = .ok (.aload_n k, 1)) (hl : L[k.val]? = some (.val v)) (hv : v.isRef = true) (kk : G l Z a0 EL tbl n0 code maxL ret R own mname Q h cells slots (pc + 1) L (v :: S)) : G l Z a0 EL tbl n0 code maxL ret R own mname Q h cells slots pc L S := by
  intro p e s m args below meth c T vm0 k0 locs P
  obtain ⟨hx, hby, -, -, -, -, -, -, X, -⟩ := id P
  exact back_steps (fun t ht => XS.aloadN X.here hx rfl (hb hby hd) hl hv ht) (kk p e s m args below meth c T vm0 k0 locs P)
theorem G.aloadV {k : Nat} {v : Value} (hd : decode code pc = .ok (.aload k, 2)) (hl : L[k]? = some (.val v)) (hv : v.isRef = true) (kk : G l Z a0 EL tbl n0 code maxL ret R own mname Q h cells slots (pc + 2) L (v :: S)) : G l Z a0 EL tbl n0 code maxL ret R own mname Q h cells slots pc L S := by
  intro p e s m args below meth c T vm0 k0 locs P
  obtain ⟨hx, hby, -, -, -, -, -, -, X, -⟩ := id P
  exact back_steps (fun t ht => XS.aload X.here hx rfl (hb hby hd) hl hv ht) (kk p e s m args below meth c T vm0 k0 locs P)
theorem G.astoreVn {k : Fin 4} {v : Value} {L' : Array Slot} (hd : decode code pc = .ok (.astore_n k, 1)) (hv : v.isRef = true) (hl : storeLocals L k.val v = some L') (kk : G l Z a0 EL tbl n0 code maxL ret R own mname Q h cells slots (pc + 1) L' S) : G l Z a0 EL tbl n0 code maxL ret R own mname Q h cells slots pc L (v :: S) := by
  intro p e s m args below meth c T vm0 k0 locs P
  obtain ⟨hx, hby, -, -, -, -, -, -, X, -⟩ := id P
  exact back_steps (fun t ht => XS.astoreN X.here hx rfl (hb hby hd) rfl hv hl ht) (kk p e s m args below meth c T vm0 k0 locs P)
theorem G.astoreV {k : Nat} {v : Value} {L' : Array Slot} (hd : decode code pc = .ok (.astore k, 2)) (hv : v.isRef = true) (hl : storeLocals L k v = some L') (kk : G l Z a0 EL tbl n0 code maxL ret R own mname Q h cells slots (pc + 2) L' S) : G l Z a0 EL tbl n0 code maxL ret R own mname Q h cells slots pc L (v :: S) := by
  intro p e s m args below meth c T vm0 k0 locs P
  obtain ⟨hx, hby, -, -, -, -, -, -, X, -⟩ := id P
  exact back_steps (fun t ht => XS.astore X.here hx rfl (hb hby hd) rfl hv hl ht) (kk p e s m args below meth c T vm0 k0 locs P)
theorem kwk {ws : List Addr} (K : Keep h h' []) : Keep h h' ws := ⟨K.1, fun x c q _ => K.2.1 x c q nin0, K.2.2⟩
/-! ## 3. Calls -/
/-- a contract: the method y, at the arguments as and the heap h, ends with Q -/
def Ct (l : Launch) (Z : State) (a0 : Array Value) (EL : List (String × Nat)) (tbl ws : List Jvm.Cond) (n0 : Nat) (y : MethodName) (bytes : ByteArray) (maxL : Nat) (ret : Option FieldType) (rm : Room) (as : Array Value) (h : Heap) (Q : Option Value → Heap → Prop) : Prop :=
  EW Z a0 EL → (∀ d ∈ tbl, d.before a0 Z = true) → Old Z n0 h → MetFree l y (head1 (Jvm.Cond.code y bytes maxL ret :: ws) rm) (fun a U => a = as ∧ Z.Warmed39 U.vm ∧ U.heap = h ∧ CHv Z EL U.vm h) (fun _ _ _ _ _ => True) (fun _ U o U' => End Z EL n0 rm Q U o U')
theorem Ct.of_bodyP {ws : List Jvm.Cond} {y : MethodName} {bytes : ByteArray} {rm : Room} {as : Array Value} {L0 : Array Slot} (hpn : plainFor y = true) (hef : ∀ m, entryFrame m as maxL = mkF m 0 L0 []) (hG : EW Z a0 EL → (∀ d ∈ tbl, d.before a0 Z = true) → Old Z n0 h → G l Z a0 EL tbl n0 bytes maxL ret rm y.cls y.name Q h 0 0 0 L0 []) :
    Ct l Z a0 EL tbl ws n0 y bytes maxL ret rm as h Q := by
  intro hEL hw hO
  refine MetFree.of_bodySF hpn hisR ?_
  intro p e s m args below meth c s₁ Bd hml0 hP hK
  obtain ⟨rfl, hZ, hh, hCH⟩ := hP
  have X0 : Stand p l e rm s m args below meth c s₁ [] 0 0 := Stand.of_body Bd
  have e0 : s₁.heap = h := by rw [← hh, Bd.state]; rfl
  rw [hef m]
  subst hh
  exact hG hEL hw hO p e s m args below meth c s₁ s.vm 0 [] ⟨Bd.exec, Bd.bytes, hml0, Bd.returns, Bd.notSynchronized, (name_of_methodNamed Bd.named Bd.method).1, hEL, hw, X0, e0, (State.WarmedH.refl s).since 0, Nat.zero_le _, hZ, findClass_of_methodNamed Bd.named, Fr.nil n0, CHr.refl hCH, hO, fun _ => State.WarmedH.refl s⟩
theorem Ct.of_body {ws : List Jvm.Cond} {y : MethodName} {bytes : ByteArray} {rm : Room} {as : Array Value} {L0 : Array Slot} (hpn : plainName y.cls = true) (hef : ∀ m, entryFrame m as maxL = mkF m 0 L0 []) (hG : EW Z a0 EL → (∀ d ∈ tbl, d.before a0 Z = true) → Old Z n0 h → G l Z a0 EL tbl n0 bytes maxL ret rm y.cls y.name Q h 0 0 0 L0 []) :
    Ct l Z a0 EL tbl ws n0 y bytes maxL ret rm as h Q :=
  Ct.of_bodyP (plainFor_of_name hpn) hef hG
/-- who pays a call -/
def BK (l : Launch) (Z : State) (a0 : Array Value) (EL : List (String × Nat)) (tbl : List Jvm.Cond) (n0 : Nat) (R : Room) (y : MethodName) (len W : Nat) (as : Array Value) (h : Heap) (kc ks : Nat) (Q : Option Value → Heap → Prop) : Prop :=
  ∀ (p : Program) (e : Env) (below : List Frame) (s : State) (args : Array Value) (vm0 : Vm), EW Z a0 EL → (∀ d ∈ tbl, d.before a0 Z = true) → Z.Warmed39 vm0 → CHv Z EL vm0 h → Old Z n0 h →
    BackS l R p e below (s.setVm vm0) args y len W (fun A a => a = as ∧ A.U.heap = h ∧ A.cells + kc ≤ R.cells ∧ A.slots + ks ≤ R.slots)
      (fun A _ v B => ∃ L, (Fr n0 L ∧ Old Z n0 B.U.heap ∧ Q v B.U.heap) ∧ B.locs = A.locs ++ L ∧ B.cells = A.cells + kc ∧ B.slots = A.slots + ks ∧ CHr Z EL vm0 h B.U.vm B.U.heap ∧ (EL = [] → (s.setVm vm0).WarmedH B.U.vm))
theorem Ct.pays {y : MethodName} {bytes : ByteArray} {rm : Room} {as : Array Value} {len W : Nat} (hC : Ct l Z a0 EL tbl [] n0 y bytes maxL ret rm as h Q) (w1 : Jvm.Cond.code y bytes maxL ret ∈ tbl) (w2 : Jvm.Cond.initialized y.cls ∈ tbl) (hf : rm.frames + 1 ≤ R.frames) (hl : W + (maxL + 11) + rm.locals ≤ R.locals) :
    BK l Z a0 EL tbl n0 R y len W as h rm.cells rm.slots Q := fun p e below s args vm0 hEL hw hZ H O =>
  have hU : ∀ (m : MethodId) (meth : Method) (c : Code) (A : Pt), Stand p l e R (s.setVm vm0) m args below meth c A.U A.locs A.cells A.slots → Z.Warmed39 A.U.vm := fun m meth c A Y => wtrans (s := s.setVm vm0) hZ Y.warmed
  BackS.of_freeW (bytes := bytes) (maxL := maxL) (ret := ret) (E := fun _ U o t L k n => k = rm.cells ∧ n = rm.slots ∧ (∃ v, o = .returned v ∧ (Fr n0 L ∧ Old Z n0 t.heap ∧ Q v t.heap)) ∧ CHr Z EL U.vm U.heap t.vm t.heap ∧ (EL = [] → U.WarmedH t.vm)) (hC hEL hw O) hf hl
    (fun m meth c A a Y hp => ⟨by show (Jvm.Cond.and _ .tt).before a A.U = true; rw [Cond.before_and, mv (hU m meth c A Y) (hw _ w1)]; rfl, mv (hU m meth c A Y) (hw _ w1), mv (hU m meth c A Y) (hw _ w2), hp.2.2.1, hp.2.2.2⟩)
    (fun m meth c A a g mk Y hp => ⟨hp.1, hU m meth c A Y, hp.2.1, (CHv.at Y hZ hEL H).1⟩) (fun _ _ _ _ _ _ _ _ _ => trivial)
    (fun _ _ _ _ ⟨v, L, h1, h2, h3, h4, h5⟩ => ⟨L, _, _, h4, rfl, rfl, ⟨v, h1, h2⟩, h3, h5⟩)
    (fun m meth c A a g mk v t L k n Y hp _ _ ⟨e1, e2, ⟨v', e3, e4⟩, e5, e6⟩ => by
      cases e3; subst e1 e2
      refine ⟨L, e4, rfl, rfl, rfl, (CHv.at Y hZ hEL H).trans ?_, fun q => State.WarmedH.trans (t := A.U) Y.warmed (e6 q)⟩
      rw [← hp.2.1]; exact e5)
/-- a law of the library's that interns nothing -/
theorem BK.of_back {y : MethodName} {len W kc ks : Nat} {as : Array Value} {ws : List Addr} (hws : ∀ x ∈ ws, n0 ≤ x) (hsf : ∀ vm, Z.Warmed39 vm → ∀ x ∈ ws, Safe Z EL vm h x)
    (hB : ∀ (p : Program) (e : Env) (below : List Frame) (s : State) (args : Array Value) (vm0 : Vm), (∀ d ∈ tbl, d.before a0 Z = true) → Z.Warmed39 vm0 → Old Z n0 h → Back l R p e below (s.setVm vm0) args y len W (fun A a => a = as ∧ A.U.heap = h ∧ A.cells + kc ≤ R.cells ∧ A.slots + ks ≤ R.slots)
      (fun A _ v B => ∃ L, (Fr n0 L ∧ Keep h B.U.heap ws ∧ Q v B.U.heap) ∧ B.locs = A.locs ++ L ∧ B.cells = A.cells + kc ∧ B.slots = A.slots + ks)) :
    BK l Z a0 EL tbl n0 R y len W as h kc ks Q := by
  intro p e below s args vm0 hEL hw hZ H O m meth c A g ig mk a X hg hsize hdg hW hn hp
  obtain ⟨v, B, X', ⟨L, ⟨q1, q2, q3⟩, q4, q5, q6⟩, hst⟩ := hB p e below s args vm0 hw hZ O m meth c A g ig mk a X hg hsize hdg hW hn hp
  have C1 := CHr.keep q2 (hsf vm0 hZ) H
  exact ⟨v, B, X'.retabled X'.warmed.wide, X'.warmed.since _, by rw [hp.2.1]; exact q2.1, ⟨L, ⟨q1, O.keep q2 hws, q3⟩, q4, q5, q6, C1.trans (CHv.at X' hZ hEL C1.1), fun _ => X'.warmed⟩, hst⟩
/-- a contract that interns nothing (EL empty), paid at any EL -/
theorem Ct.warm {y : MethodName} {bytes : ByteArray} {rm : Room} {as : Array Value} {len W : Nat} {ws : List Addr} (hC : Ct l Z a0 [] tbl [] n0 y bytes maxL ret rm as h Q) (w1 : Jvm.Cond.code y bytes maxL ret ∈ tbl) (w2 : Jvm.Cond.initialized y.cls ∈ tbl) (hf : rm.frames + 1 ≤ R.frames) (hl : W + (maxL + 11) + rm.locals ≤ R.locals)
    (hK : ∀ v h', Q v h' → Keep h h' ws) (hws : ∀ x ∈ ws, n0 ≤ x) (hsf : ∀ vm, Z.Warmed39 vm → ∀ x ∈ ws, Safe Z EL vm h x) : BK l Z a0 EL tbl n0 R y len W as h rm.cells rm.slots Q := by
  refine BK.of_back hws hsf fun p e below s args vm0 hw hZ O => ?_
  have hM : MetFree l y (head1 [Jvm.Cond.code y bytes maxL ret] rm) (fun a U => a = as ∧ Z.Warmed39 U.vm ∧ U.heap = h) (fun _ _ _ _ _ => True) (fun _ U o U' => ∃ v L, o = .returned v ∧ (Fr n0 L ∧ Keep h U'.heap ws ∧ Q v U'.heap) ∧ FrameEnd U o U' L rm.cells rm.slots) := by
    intro p e h1 h2 h3 s m args below hf hap hP hK'
    obtain ⟨n, o, q1, q2, q3, v, L, q4, ⟨q5, q6, q7⟩, q8, q9, q10⟩ := hC EW.nil hw O p e h1 h2 h3 s m args below hf hap ⟨hP.1, hP.2.1, hP.2.2, fun p hp => nomatch hp⟩ hK'
    exact ⟨n, o, q1, q2, q3, v, L, q4, ⟨q5, hK _ _ q7, q7⟩, q9.1, q10 rfl, q9.2.2.2⟩
  exact backOf (s := s.setVm vm0) (Q := fun v hh L => Fr n0 L ∧ Keep h hh ws ∧ Q v hh) hM hZ (hw _ w1) (hw _ w2) hf hl
section Calls
variable {y z : MethodName} {idx W kc ks : Nat} {argsL rest : List Value} {Qc : Option Value → Heap → Prop}
theorem G.static {bytes : ByteArray} {mL : Nat} {rt : Option FieldType} (hd : decode code pc = .ok (.invokestatic idx, 3)) (w1 : Jvm.Cond.methodLink own idx y ∈ tbl) (w2 : Jvm.Cond.static y ∈ tbl) (w3 : Jvm.Cond.initialized y.cls ∈ tbl) (w4 : Jvm.Cond.code y bytes mL rt ∈ tbl) (hy : y.cls ≠ "java/lang/invoke/MethodHandle" ∧ y.cls ≠ "java/lang/invoke/VarHandle")
    (hB : BK l Z a0 EL tbl n0 R y 3 W argsL.toArray h kc ks Qc) (hlen : ∀ sig, parseMethodDescriptor y.desc = some sig → argsL.length = sig.parameters.length) (hs : S = argsL.reverse ++ rest) (hW : 2 * 0 + (rest.map fun v => v.category).sum ≤ W) (hsz : L.size = maxL) (hc : cells + kc ≤ R.cells) (hl : slots + ks ≤ R.slots)
    (k : ∀ v h', Qc v h' → G l Z a0 EL tbl n0 code maxL ret R own mname Q h' (cells + kc) (slots + ks) (pc + 3) L (v.toList ++ rest)) : G l Z a0 EL tbl n0 code maxL ret R own mname Q h cells slots pc L S := by
  intro p e s m args below meth c T vm0 k0 locs P
  obtain ⟨hx, hby, hml, hret, hlk, hnm, hEL, hw, X, eT, hS, hk, hZ, hown, N, H, O, Wm⟩ := P
  obtain ⟨v, vm₁, ⟨T', L', k', n'⟩, hW1, X', hS', hgr, ⟨Lc, ⟨q1, q2, q3⟩, e1, e2, e3, C1, W1⟩, st⟩ := callSS X hx hown (mvT hZ (hw _ w1)) (mvT hZ (hw _ w2)) (mvT hZ (hw _ w3)) (mvT hZ (hw _ w4)) hy (hB p e below s args vm0 hEL hw hZ H.1 O) (g := mkF m pc L S) rfl (hsz.trans hml.symm) hlen hs hW (hb hby hd) (fun _ _ => ⟨rfl, eT, hc, hl⟩)
  dsimp only [Pt.U, Pt.locs, Pt.cells, Pt.slots] at X' hS' hgr q2 q3 e1 e2 e3 C1 W1 st
  subst e1 e2 e3
  obtain ⟨X2, S2, Z2, o2⟩ := rebS hS hk X' hS' (by rw [← eT]; exact hgr) hZ hown
  exact back_steps (fun t ht => st.trans ht) (k v T'.heap q3 p e s m args below meth c T' T'.vm T'.heap.size _ ⟨hx, hby, hml, hret, hlk, hnm, hEL, hw, X2, rfl, S2, Nat.le_refl _, Z2, o2, N.app q1, H.trans C1, q2, fun q => State.WarmedH.trans (t := s.setVm vm0) (Wm q) (W1 q)⟩)
theorem G.special {a : Addr} {bytes : ByteArray} {mL : Nat} (hy1 : y.name = "<init>") (hd : decode code pc = .ok (.invokespecial idx, 3)) (w1 : Jvm.Cond.methodLink own idx y ∈ tbl) (w2 : Jvm.Cond.instanceMethod y ∈ tbl) (w4 : Jvm.Cond.code y bytes mL none ∈ tbl) (hy : y.cls ≠ "java/lang/invoke/MethodHandle" ∧ y.cls ≠ "java/lang/invoke/VarHandle")
    (hB : BK l Z a0 EL tbl n0 R y 3 W (.ref a :: argsL).toArray h kc ks Qc) (hlen : ∀ sig, parseMethodDescriptor y.desc = some sig → argsL.length = sig.parameters.length) (hs : S = argsL.reverse ++ .ref a :: rest) (hW : 2 * 0 + (rest.map fun v => v.category).sum ≤ W) (hsz : L.size = maxL) (hc : cells + kc ≤ R.cells) (hl : slots + ks ≤ R.slots)
    (k : ∀ v h', Qc v h' → G l Z a0 EL tbl n0 code maxL ret R own mname Q h' (cells + kc) (slots + ks) (pc + 3) L (v.toList ++ rest)) : G l Z a0 EL tbl n0 code maxL ret R own mname Q h cells slots pc L S := by
  intro p e s m args below meth c T vm0 k0 locs P
  obtain ⟨hx, hby, hml, hret, hlk, hnm, hEL, hw, X, eT, hS, hk, hZ, hown, N, H, O, Wm⟩ := P
  obtain ⟨v, vm₁, ⟨T', L', k', n'⟩, hW1, X', hS', hgr, ⟨Lc, ⟨q1, q2, q3⟩, e1, e2, e3, C1, W1⟩, st⟩ := X.specialBackS hx hy1 hown (mvT hZ (hw _ w1)) (mvT hZ (hw _ w2)) (mvT hZ (hw _ w4)) hy (hB p e below s args vm0 hEL hw hZ H.1 O) (g := mkF m pc L S) rfl (hsz.trans hml.symm) (Steps.refl _) hlen hs hW (hb hby hd) (fun _ _ => ⟨rfl, eT, hc, hl⟩)
  dsimp only [Pt.U, Pt.locs, Pt.cells, Pt.slots] at X' hS' hgr q2 q3 e1 e2 e3 C1 W1 st
  subst e1 e2 e3
  obtain ⟨X2, S2, Z2, o2⟩ := rebS hS hk X' hS' (by rw [← eT]; exact hgr) hZ hown
  exact back_steps (fun t ht => st.trans ht) (k v T'.heap q3 p e s m args below meth c T' T'.vm T'.heap.size _ ⟨hx, hby, hml, hret, hlk, hnm, hEL, hw, X2, rfl, S2, Nat.le_refl _, Z2, o2, N.app q1, H.trans C1, q2, fun q => State.WarmedH.trans (t := s.setVm vm0) (Wm q) (W1 q)⟩)
theorem G.virtual {a : Addr} {C : String} (hd : decode code pc = .ok (.invokevirtual idx, 3)) (w1 : Jvm.Cond.methodLink own idx y ∈ tbl) (w2 : Jvm.Cond.declares y ∈ tbl) (w3 : Jvm.Cond.selects C y y ∈ tbl) (w4 : Jvm.Cond.instanceMethod y ∈ tbl) (hy : y.cls ≠ "java/lang/invoke/MethodHandle" ∧ y.cls ≠ "java/lang/invoke/VarHandle") (E : Exa Z h a C)
    (hB : BK l Z a0 EL tbl n0 R y 3 W (.ref a :: argsL).toArray h kc ks Qc) (hlen : ∀ sig, parseMethodDescriptor y.desc = some sig → argsL.length = sig.parameters.length) (hs : S = argsL.reverse ++ .ref a :: rest) (hW : 2 * 0 + (rest.map fun v => v.category).sum ≤ W) (hsz : L.size = maxL) (hc : cells + kc ≤ R.cells) (hl : slots + ks ≤ R.slots)
    (k : ∀ v h', Qc v h' → G l Z a0 EL tbl n0 code maxL ret R own mname Q h' (cells + kc) (slots + ks) (pc + 3) L (v.toList ++ rest)) : G l Z a0 EL tbl n0 code maxL ret R own mname Q h cells slots pc L S := by
  intro p e s m args below meth c T vm0 k0 locs P
  obtain ⟨hx, hby, hml, hret, hlk, hnm, hEL, hw, X, eT, hS, hk, hZ, hown, N, H, O, Wm⟩ := P
  obtain ⟨cB, kB, f1, f2, f3⟩ := isOf (s := s.setVm vm0) hZ eT E
  obtain ⟨v, vm₁, ⟨T', L', k', n'⟩, hW1, X', hS', hgr, ⟨Lc, ⟨q1, q2, q3⟩, e1, e2, e3, C1, W1⟩, st⟩ := X.virtualBackS hx hown (mvT hZ (hw _ w1)) (mvT hZ (hw _ w2)) (notFace_of_selects (args := #[]) (mvT hZ (hw _ w3))) (mvT hZ (hw _ w3)) (mvT hZ (hw _ w4)) hy (hB p e below s args vm0 hEL hw hZ H.1 O) f1 f3 (g := mkF m pc L S) rfl (hsz.trans hml.symm) (Steps.refl _) hlen hs hW (hb hby hd) (fun _ _ => ⟨rfl, eT, hc, hl⟩)
  dsimp only [Pt.U, Pt.locs, Pt.cells, Pt.slots] at X' hS' hgr q2 q3 e1 e2 e3 C1 W1 st
  subst e1 e2 e3
  obtain ⟨X2, S2, Z2, o2⟩ := rebS hS hk X' hS' (by rw [← eT]; exact hgr) hZ hown
  exact back_steps (fun t ht => st.trans ht) (k v T'.heap q3 p e s m args below meth c T' T'.vm T'.heap.size _ ⟨hx, hby, hml, hret, hlk, hnm, hEL, hw, X2, rfl, S2, Nat.le_refl _, Z2, o2, N.app q1, H.trans C1, q2, fun q => State.WarmedH.trans (t := s.setVm vm0) (Wm q) (W1 q)⟩)
end Calls
/-! ## 4. The end -/
theorem rew_mono {s t : State} {o : Outcome} {Ls : List Loc} {k n k' n' : Nat} (q : ReturnedEndW s o t Ls k n) (hk : k ≤ k') (hn : n ≤ n') : ReturnedEndW s o t Ls k' n' := ⟨q.1, q.2.1, q.2.2.1, q.2.2.2.mono hk hn⟩
theorem G.leave {v : Option Value} (hv : ret = none → v = none) (hq : Q v h) (hc : cells ≤ R.cells) (hl : slots ≤ R.slots)
    (st : ∀ (p : Program) (e : Env) (s : State) (m : MethodId) (args : Array Value) (below : List Frame) (meth : Method) (c : Code) (T : State) (locs : List Loc) (fs : List Frame), p.tables.exec = Jvm.exec → c.code = code → meth.sig.returnType = ret → Stand p l e R s m args below meth c T locs cells slots →
      (∀ (f : JFrame) (acts : List Action), f.method = m → f.locked = none → f.entered = [] → (doReturn e (T.setTop f) acts v).1 = T.setFrames fs) → Steps p.tables e below (T.setTop (mkF m pc L S)) (T.setFrames fs)) :
    G l Z a0 EL tbl n0 code maxL ret R own mname Q h cells slots pc L S := by
  intro p e s m args below meth c T vm0 k0 locs P
  obtain ⟨hx, hby, hml, hret, hlk, hnm, hEL, hw, X, eT, hS, hk, hZ, hown, N, H, O, Wm⟩ := P
  subst eT
  obtain ⟨fs, hr, hrun, hended, hE⟩ := X.leaveW hS hk (v := v) (fun q => hv (hret.symm.trans q)) hlk
  exact ⟨_, _, st p e (s.setVm vm0) m args below meth c T locs fs hx hby hret X hr, hrun, hended, v, locs, rfl, ⟨N, O, hq⟩, H.trans (CHv.at X hZ hEL H.1 : CHr Z EL vm0 T.heap T.vm T.heap), rew_mono hE hc hl, fun q => State.WarmedH.trans (t := s.setVm vm0) (Wm q) X.warmed⟩
theorem G.retV (hd : decode code pc = .ok (.return_, 1)) (hret : ret = none) (hq : Q none h) (hc : cells ≤ R.cells) (hl : slots ≤ R.slots) : G l Z a0 EL tbl n0 code maxL ret R own mname Q h cells slots pc L [] :=
  G.leave (v := none) (fun _ => rfl) hq hc hl fun p e s m args below meth c T locs fs hx hby hr X hl => X.returnOut hx (hr.trans hret) (hb hby hd) hl
theorem G.retI {z : Int32} (hd : decode code pc = .ok (.ireturn, 1)) (hret : ret = some .int) (hq : Q (some (.int z)) h) (hc : cells ≤ R.cells) (hl : slots ≤ R.slots) : G l Z a0 EL tbl n0 code maxL ret R own mname Q h cells slots pc L (.int z :: S) :=
  G.leave (v := some (.int z)) (fun q => nomatch hret.symm.trans q) hq hc hl fun p e s m args below meth c T locs fs hx hby hr X hl => retOut X hx (hr.trans hret) rfl (Or.inl ⟨rfl, Or.inl rfl, _, rfl⟩) (hb hby hd) hl
theorem G.retJ {z : Int64} (hd : decode code pc = .ok (.lreturn, 1)) (hret : ret = some .long) (hq : Q (some (.long z)) h) (hc : cells ≤ R.cells) (hl : slots ≤ R.slots) : G l Z a0 EL tbl n0 code maxL ret R own mname Q h cells slots pc L (.long z :: S) :=
  G.leave (v := some (.long z)) (fun q => nomatch hret.symm.trans q) hq hc hl fun p e s m args below meth c T locs fs hx hby hr X hl => retOut X hx (hr.trans hret) rfl (Or.inr (Or.inl ⟨rfl, rfl, _, rfl⟩)) (hb hby hd) hl
theorem G.retA {w : Value} {t : FieldType} (hd : decode code pc = .ok (.areturn, 1)) (hret : ret = some t) (ht : t.isReference = true) (hn : narrow t w = w) (hw : w.isRef = true) (hq : Q (some w) h) (hc : cells ≤ R.cells) (hl : slots ≤ R.slots) : G l Z a0 EL tbl n0 code maxL ret R own mname Q h cells slots pc L (w :: S) :=
  G.leave (v := some w) (fun q => nomatch hret.symm.trans q) hq hc hl fun p e s m args below meth c T locs fs hx hby hr X hl => retOut X hx (hr.trans hret) hn (Or.inr (Or.inr (Or.inr (Or.inr ⟨rfl, ht, hw⟩)))) (hb hby hd) hl
theorem G.retN {z z' : Int32} {t : FieldType} (hd : decode code pc = .ok (.ireturn, 1)) (hret : ret = some t) (ht : t = .boolean ∨ t = .byte ∨ t = .char ∨ t = .short) (hz : nar t z = z') (hq : Q (some (.int z')) h) (hc : cells ≤ R.cells) (hl : slots ≤ R.slots) : G l Z a0 EL tbl n0 code maxL ret R own mname Q h cells slots pc L (.int z :: S) := by
  subst hz
  exact G.leave (v := some (.int (nar t z))) (fun q => nomatch hret.symm.trans q) hq hc hl fun p e s m args below meth c T locs fs hx hby hr X hl => Jvm.RoadKit.retN X hx (hr.trans hret) ht (hb hby hd) hl
end G
end Own
end Jvm.Pilot.@@N@@
namespace Jvm.Pilot.@@N@@
namespace Own
open Jvm Jvm.ClassFile Sem Op Lib Jvm.Free Jvm.Stand Jvm.LawKit Jvm.RoadKit Bundle
/-! ## 5. Strings -/
abbrev ST : String := "java/lang/String"
abbrev N1 : MethodName := ⟨"java/lang/String", "<init>", "([C)V"⟩
abbrev N4 : MethodName := ⟨"java/lang/String", "<init>", "([CIILjava/lang/Void;)V"⟩
section Strings
variable {l : Launch} {Z : State} {a0 : Array Value} {EL : List (String × Nat)} {tbl : List Jvm.Cond} {n0 : Nat} {R : Room} {h h' h1 h2 : Heap} {a x : Addr} {cs ds : List Int32}
/-- COMPACT_STRINGS is on -/
def CS (Z : State) : Prop := ∃ z : Int32, Sta Z Z.heap ST "COMPACT_STRINGS" "Z" (.int z) ∧ ¬ z = 0
def lat (cs : List Int32) : Prop := ∀ c ∈ cs, ¬ c < 0 ∧ ¬ (255 : Int32) < c
/-- the String at a spells cs -/
def Str (Z : State) (h : Heap) (a : Addr) (cs : List Int32) : Prop := Exa Z h a ST ∧ Fld Z h a ST "coder" "B" (.int 0) ∧ lat cs ∧ cs.length ≤ 4000 ∧
  ∃ (b : Addr) (k : ClassId), Fld Z h a ST "value" "[B" (.ref b) ∧ Arv Z h b k .byte (Int32.ofNat cs.length) ((cs.map fun c => c.toInt8.toInt32).map Value.int) (.int 0)
theorem Str.lt (F : Str Z h a cs) : a < h.size := F.1.lt
theorem Str.keep0 (F : Str Z h a cs) (K : Keep h h' []) : Str Z h' a cs := by
  obtain ⟨E, C, q1, q2, b, k, V, A⟩ := F
  exact ⟨E.keep K, C.keep K nin0, q1, q2, b, k, V.keep K nin0, A.keep K nin0⟩
theorem Str.keepE {t : Addr} {C : String} {n : Nat} (F : Str Z h a cs) (K : Keep h h' [t]) (E' : Exa Z h t C) (hC : C ≠ ST) (wi : (Jvm.Cond.instantiable C n).before a0 Z = true) : Str Z h' a cs := by
  obtain ⟨E, C1, q1, q2, b, k, V, A⟩ := F
  have n1 : a ≠ t := ne_exa E E' (Ne.symm hC)
  have n2 : b ≠ t := Ne.symm (Exa.neArv E' A wi)
  exact ⟨E.keep K, C1.keep K (ninS n1 nin0), q1, q2, b, k, V.keep K (ninS n1 nin0), A.keep K (ninS n2 nin0)⟩
theorem same_name {vm : Vm} (hal : Z.vm.Alike vm) {C D : String} {c : ClassId} (e1 : Z.vm.findClass C = some c) (e2 : vm.findClass D = some c) : C = D := by
  rw [hal.findClass] at e2
  obtain ⟨k1, q1, q2⟩ := Vm.findClass_spec e1
  obtain ⟨k2, q3, q4⟩ := Vm.findClass_spec e2
  cases q1.symm.trans q3
  exact q2.symm.trans q4
/-- a String whose value is still null is no literal -/
theorem safe_blank {vm : Vm} (hal : Z.vm.Alike vm) (E : Exa Z h x ST) (F : Fld Z h x ST "value" "[B" .null) : Safe Z EL vm h x := fun B => by
  obtain ⟨p, -, u, a, -, q, -, FF, rfl | rfl⟩ := B
  · obtain ⟨cS, ⟨⟨s1, s2, s3, ⟨cv, kv, iv, s4, s4'⟩, -, s6, s7, s8, -⟩, -, -⟩, -⟩ := FF
    obtain ⟨cell, cf, k, i, f, h1, h2, h3, h4, h5, h6, h7⟩ := F
    obtain ⟨kv', z4⟩ := ff_back (U := Wst Z vm h) hal s4
    cases h2.symm.trans z4
    cases h1.symm.trans (show h[q.sa]? = some q.sC from s1)
    cases h7.symm.trans s8
  · obtain ⟨cell, k, e1, e2, -⟩ := E
    cases (show h[q.sd]? = some q.SA from FF.hd).symm.trans e1
    obtain ⟨cS, -, -, f, -⟩ := FF
    exact absurd (same_name hal e2 f) (by decide)
theorem BK.more {y : MethodName} {len W kc ks kc' ks' : Nat} {as : Array Value} {Q : Option Value → Heap → Prop} (h1 : kc ≤ kc') (h2 : ks ≤ ks') (B : BK l Z a0 EL tbl n0 R y len W as h kc ks Q) : BK l Z a0 EL tbl n0 R y len W as h kc' ks' Q := by
  intro p e below s args vm0 hEL hw hZ H O m meth c A g ig mk a X hg hsize hdg hW hn hp
  obtain ⟨v, ⟨T, locs, k, n⟩, X', hS, hgr, ⟨L, q1, q2, q3, q4, q5, q6⟩, hst⟩ := B p e below s args vm0 hEL hw hZ H O m meth c A g ig mk a X hg hsize hdg hW hn ⟨hp.1, hp.2.1, Nat.le_trans (Nat.add_le_add_left h1 _) hp.2.2.1, Nat.le_trans (Nat.add_le_add_left h2 _) hp.2.2.2⟩
  dsimp only [Pt.U, Pt.locs, Pt.cells, Pt.slots] at X' hS hgr q1 q2 q3 q4 q5 q6 hst
  subst q2 q3 q4
  exact ⟨v, ⟨T, _, A.2.2.1 + kc', A.2.2.2 + ks'⟩, X'.mono (Nat.add_le_add_left h1 _) (Nat.add_le_add_left h2 _), hS, hgr, ⟨L, q1, rfl, rfl, rfl, q5, q6⟩, hst⟩
theorem BK.weak {y : MethodName} {len W kc ks : Nat} {as : Array Value} {Q Q' : Option Value → Heap → Prop} (hq : ∀ v h', Q v h' → Q' v h') (B : BK l Z a0 EL tbl n0 R y len W as h kc ks Q) : BK l Z a0 EL tbl n0 R y len W as h kc ks Q' := by
  intro p e below s args vm0 hEL hw hZ H O m meth c A g ig mk a X hg hsize hdg hW hn hp
  obtain ⟨v, T, X', hS, hgr, ⟨L, ⟨q1, q2, q3⟩, r⟩, hst⟩ := B p e below s args vm0 hEL hw hZ H O m meth c A g ig mk a X hg hsize hdg hW hn hp
  exact ⟨v, T, X', hS, hgr, ⟨L, ⟨q1, q2, hq _ _ q3⟩, r⟩, hst⟩
abbrev wordsE : List Jvm.Cond := [.stringLink ST 7 "", .instantiable ST 4, .soleField ST "value", .soleField ST "coder"]
theorem e0 : decode StrChars.New4.yB 0 = .ok (.aload_n 0, 1) := by decide +kernel
theorem e1 : decode StrChars.New4.yB 1 = .ok (.invokespecial 1, 3) := by decide +kernel
theorem e4 : decode StrChars.New4.yB 4 = .ok (.iload_n 3, 1) := by decide +kernel
theorem e5 : decode StrChars.New4.yB 5 = .ok (.ifCond .ne 22, 3) := by decide +kernel
theorem e8 : decode StrChars.New4.yB 8 = .ok (.aload_n 0, 1) := by decide +kernel
theorem e9 : decode StrChars.New4.yB 9 = .ok (.ldc 7, 2) := by decide +kernel
theorem e11 : decode StrChars.New4.yB 11 = .ok (.getfield 9, 3) := by decide +kernel
theorem e14 : decode StrChars.New4.yB 14 = .ok (.putfield 9, 3) := by decide +kernel
theorem e17 : decode StrChars.New4.yB 17 = .ok (.aload_n 0, 1) := by decide +kernel
theorem e18 : decode StrChars.New4.yB 18 = .ok (.ldc 7, 2) := by decide +kernel
theorem e20 : decode StrChars.New4.yB 20 = .ok (.getfield 15, 3) := by decide +kernel
theorem e23 : decode StrChars.New4.yB 23 = .ok (.putfield 15, 3) := by decide +kernel
theorem e26 : decode StrChars.New4.yB 26 = .ok (.return_, 1) := by decide +kernel
theorem pnS : plainName ST = true := by first | (simp [plainName, overriddenIn]; done) | decide +kernel
theorem efN4 (m : MethodId) (x b : Addr) : entryFrame m #[.ref x, .ref b, .int 0, .int 0, .null] 6 = mkF m 0 #[.val (.ref x), .val (.ref b), .val (.int 0), .val (.int 0), .val .null, .unset] [] := by first | (simp [entryFrame, mkF, argsToLocals, Value.category]; done) | rfl
theorem efN1 (m : MethodId) (x b : Addr) : entryFrame m #[.ref x, .ref b] 2 = mkF m 0 #[.val (.ref x), .val (.ref b)] [] := by first | (simp [entryFrame, mkF, argsToLocals, Value.category]; done) | rfl
/-- what new String(..) leaves -/
def QS (Z : State) (x : Addr) (cs : List Int32) (h : Heap) (v : Option Value) (h' : Heap) : Prop := v = none ∧ Keep h h' [x] ∧ Str Z h' x cs
set_option maxRecDepth 65536 in
set_option maxHeartbeats 4000000 in
/-- String(char[], int, int, Void) at length 0: the literal "" lends its array -/
theorem new4e (hws : ∀ d ∈ StrChars.Road.words, d ∈ tbl) (hwe : ∀ d ∈ wordsE, d ∈ tbl) (hmem : (ST, 7) ∈ EL) {b : Addr} (hx0 : n0 ≤ x) (E : Exa Z h x ST) (V : Fld Z h x ST "value" "[B" .null) (C : Fld Z h x ST "coder" "B" (.int 0)) :
    Ct l Z a0 EL tbl [] n0 N4 StrChars.New4.yB 6 none ({ frames := 1, cells := 2, slots := 4, locals := 12 } : Room) #[.ref x, .ref b, .int 0, .int 0, .null] h (QS Z x [] h) := by
  intro hEL hw0 hO
  refine MetFree.of_bodySF (plainFor_of_name pnS) hisR ?_
  intro p e s m args below meth c s₁ Bd hml0 hP hK
  obtain ⟨rfl, hZ, hh, hCH⟩ := hP
  subst hh
  have hw : ∀ d ∈ StrChars.Road.words, d.before a0 Z = true := fun d hd => hw0 d (hws d hd)
  have hwE : ∀ d ∈ wordsE, d.before a0 Z = true := fun d hd => hw0 d (hwe d hd)
  have hx := Bd.exec
  have hby := Bd.bytes
  have hml : c.maxLocals = 6 := hml0
  have hown : s.vm.findClass ST = some m.cls := findClass_of_methodNamed Bd.named
  have hnm := (name_of_methodNamed Bd.named Bd.method).1
  have X0 : Stand p l e ({ frames := 1, cells := 2, slots := 4, locals := 12 } : Room) s m #[.ref x, .ref b, .int 0, .int 0, .null] below meth c s₁ [] 0 0 := Stand.of_body Bd
  have e0' : s₁.heap = s.heap := by rw [Bd.state]; rfl
  have wi : (Jvm.Cond.instantiable ST 4).before a0 Z = true := hwE _ (by simp [wordsE])
  have wv : (Jvm.Cond.laysFinal ST ST "value" "[B").before a0 Z = true := hw _ (by simp [StrChars.Road.words])
  have wc : (Jvm.Cond.laysFinal ST ST "coder" "B").before a0 Z = true := hw _ (by simp [StrChars.Road.words])
  have wS : ∀ d ∈ Bundle.stringAtoms, d.before a0 Z = true := fun d hd => by
    simp only [Bundle.stringAtoms, List.mem_cons, List.not_mem_nil, or_false] at hd
    rcases hd with rfl | rfl | rfl | rfl | rfl | rfl | rfl
    · exact hw _ (by simp [StrChars.Road.words, Bundle.sN])
    · exact wi
    · exact hw _ (by simp [StrChars.Road.words])
    · exact wv
    · exact wc
    · exact hwE _ (by simp [wordsE, Bundle.sN])
    · exact hwE _ (by simp [wordsE, Bundle.sN])
  have wl : (Jvm.Cond.stringLink ST 7 "").before a0 Z = true := hwE _ (by simp [wordsE])
  obtain ⟨T1, X1, e1', st1⟩ := Jvm.RoadKit.initO X0 hx hZ hown (hw _ (by simp [StrChars.Road.words])) (hw _ (by simp [StrChars.Road.words])) (hw _ (by simp [StrChars.Road.words])) e0' (g := mkF m 1 #[.val (.ref x), .val (.ref b), .val (.int 0), .val (.int 0), .val .null, .unset] [.ref x]) rfl (by rw [hml]; rfl) rfl (hb hby e1) (by decide) (W := 0) (by show 2 * 0 + _ ≤ _; exact Nat.le_of_eq rfl) (by decide)
  have X1' : Stand p l e ({ frames := 1, cells := 2, slots := 4, locals := 12 } : Room) (s.setVm s.vm) m #[.ref x, .ref b, .int 0, .int 0, .null] below meth c T1 [] 0 0 := X1
  obtain ⟨a, T2, h2, k1, bb, kb, X2, e2, E2, S2, hk2, Z2, o2, Ea, Ca, Va, Ab, la, lb, C2, Lt, ne2, st2⟩ := ldcCH X1' hx hZ hown wl wS e1' ((State.WarmedH.refl s).since 0) (Nat.zero_le _) hEL hmem hCH (vs := []) (z := 0) ⟨fun c hc => (nomatch hc), rfl⟩ (by decide) rfl (g := mkF m 9 #[.val (.ref x), .val (.ref b), .val (.int 0), .val (.int 0), .val .null, .unset] [.ref x]) rfl (hb hby e9) (n := 0) (Nat.le_refl _) (by decide) (by decide) (by decide)
  have sf0 : Safe Z EL s.vm s.heap x := safe_blank (Z := Z) hZ.alike E V
  have sf2 : Safe Z EL T2.vm h2 x := C2.safe E.lt sf0
  obtain ⟨nea, neb⟩ := ne2 x sf2
  obtain ⟨T3, X3, e3', st3⟩ := Jvm.RoadKit.getF X2 hx Z2 o2 (host := "") (Or.inl (hw _ (by simp [StrChars.Road.words]))) Via.refl e2 Va (g := mkF m 11 #[.val (.ref x), .val (.ref b), .val (.int 0), .val (.int 0), .val .null, .unset] [.ref a, .ref x]) rfl rfl (hb hby e11)
  obtain ⟨T4, h4, X4, e4', W4, st4⟩ := Jvm.RoadKit.putF X3 hx Z2 o2 (host := "") (Or.inl (hw _ (by simp [StrChars.Road.words]))) Via.refl e3' (V.ext E2) (E.ext E2) (Or.inr ⟨wv, rfl, hnm⟩) wi (ty := .array .byte) (by decide) rfl rfl (g := mkF m 14 #[.val (.ref x), .val (.ref b), .val (.int 0), .val (.int 0), .val .null, .unset] [.ref bb, .ref x]) rfl rfl (hb hby e14)
  have C4 := C2.trans (CHr.wr W4 sf2 C2.1)
  have sf4 : Safe Z EL T2.vm h4 x := Safe.wr W4 sf2 C2.1 sf2
  have st5 := ldcAgain X4 hx Z2 o2 wl Lt (g := mkF m 18 #[.val (.ref x), .val (.ref b), .val (.int 0), .val (.int 0), .val .null, .unset] [.ref x]) rfl (hb hby e18)
  obtain ⟨T6, X6, e6', st6⟩ := Jvm.RoadKit.getF X4 hx Z2 o2 (host := "") (Or.inl (hw _ (by simp [StrChars.Road.words]))) Via.refl e4' (Ca.other W4 (Or.inl (Ne.symm nea))) (g := mkF m 20 #[.val (.ref x), .val (.ref b), .val (.int 0), .val (.int 0), .val .null, .unset] [.ref a, .ref x]) rfl rfl (hb hby e20)
  have sl : Jvm.RoadKit.slotOf Z ST "value" "[B" ≠ Jvm.RoadKit.slotOf Z ST "coder" "B" := Jvm.RoadKit.slot_ne (a0 := a0) (C := ST) (Or.inr wv) (Or.inr wc) (by decide) (t := .array .byte) (by decide) (t' := .byte) (by decide)
  obtain ⟨T7, h7, X7, e7', W7, st7⟩ := Jvm.RoadKit.putF X6 hx Z2 o2 (host := "") (Or.inl (hw _ (by simp [StrChars.Road.words]))) Via.refl e6' ((C.ext E2).other W4 (Or.inr (Ne.symm sl))) ((E.ext E2).wr W4) (Or.inr ⟨wc, rfl, hnm⟩) wi (ty := .byte) (by decide) rfl rfl (g := mkF m 23 #[.val (.ref x), .val (.ref b), .val (.int 0), .val (.int 0), .val .null, .unset] [.int 0, .ref x]) rfl rfl (hb hby e23)
  have C7 := C4.trans (CHr.wr W7 sf4 C4.1)
  have N7 : Fr n0 _ := Fr.snoc X7 (Fr.snoc X4 (Fr.nil n0) hx0) hx0
  have K7 : Keep s.heap h7 [x] := (((Keep.refl s.heap [x]).ext E2).wr W4 (Or.inl (List.mem_singleton.mpr rfl))).wr W7 (Or.inl (List.mem_singleton.mpr rfl))
  have hk7 : k1 ≤ T7.heap.size := by rw [e7', W7.size, W4.size]; exact hk2
  obtain ⟨fs, hr, hrun, hended, hE⟩ := X7.leaveW S2 hk7 (v := none) (fun _ => rfl) Bd.notSynchronized
  rw [efN4 m x b]
  refine ⟨_, _, ?_, hrun, hended, none, _, rfl, ⟨N7, ?_, ?_⟩, ?_, hE, fun q => absurd hmem (by rw [q]; exact List.not_mem_nil)⟩
  · refine XS.aloadN X0.here hx rfl (hb hby e0) rfl rfl ?_
    refine st1 _ ?_
    refine XS.iloadN X1.here hx rfl (hb hby e4) rfl ?_
    refine XS.ifNo X1.here hx rfl (hb hby e5) rfl (XT.i0_ne_f rfl) ?_
    refine XS.aloadN X1.here hx rfl (hb hby e8) rfl rfl ?_
    refine st2 _ ?_
    refine st3 _ ?_
    refine st4 _ ?_
    refine XS.aloadN X4.here hx rfl (hb hby e17) rfl rfl ?_
    refine st5 _ ?_
    refine st6 _ ?_
    refine st7 _ ?_
    exact X7.returnOut hx Bd.returns (hb hby e26) hr
  · show Old Z n0 T7.heap
    rw [e7']; exact hO.keep K7 (allS hx0 all0)
  · show QS Z x [] s.heap none T7.heap
    rw [e7']
    refine ⟨rfl, K7, ((E.ext E2).wr W4).wr W7, Fld.same W7 ((C.ext E2).other W4 (Or.inr (Ne.symm sl))), fun c hc => (nomatch hc), Nat.zero_le _, bb, kb, (Fld.same W4 (V.ext E2)).other W7 (Or.inr sl), ?_⟩
    exact (Ab.other W4 (Ne.symm neb)).other W7 (Ne.symm neb)
  · show CHr Z EL s.vm s.heap T7.vm T7.heap
    rw [e7']
    exact C7.trans (CHv.at X7 Z2 hEL C7.1)
theorem G.arrlen {code : ByteArray} {maxL : Nat} {ret : Option FieldType} {own mname : String} {Q : Option Value → Heap → Prop} {cells slots pc : Nat} {L : Array Slot} {S : List Value} {kA : ClassId} {ty : FieldType} {z : Int32} {vs : List Value} {dv : Value} (hd : decode code pc = .ok (.arraylength, 1)) (A : Arv Z h a kA ty z vs dv)
    (k : G l Z a0 EL tbl n0 code maxL ret R own mname Q h cells slots (pc + 1) L (.int z :: S)) : G l Z a0 EL tbl n0 code maxL ret R own mname Q h cells slots pc L (.ref a :: S) := by
  intro p e s m args below meth c T vm0 k0 locs P
  obtain ⟨hx, hby, hml, hret, hlk, hnm, hEL, hw, X, eT, r⟩ := id P
  obtain ⟨hS, hk, hZ, -⟩ := r
  obtain ⟨cl, A1, A2, A3, A4, A5, A6⟩ := A
  exact back_steps (fun t ht => X.arraylength hx (by rw [eT]; exact A1.1) (State.isArrayOf_alike (s := Z) hZ.alike A1.2.1) (g := mkF m pc L (.ref a :: S)) rfl rfl (hb hby hd) t (by rw [len_of A3 A4]; exact ht)) (k p e s m args below meth c T vm0 k0 locs P)
theorem G.caload {code : ByteArray} {maxL : Nat} {ret : Option FieldType} {own mname : String} {Q : Option Value → Heap → Prop} {cells slots pc : Nat} {L : Array Slot} {S : List Value} {kA : ClassId} {z j : Int32} {vs : List Value} {dv v : Value} (hd : decode code pc = .ok (.caload, 1)) (A : Arv Z h a kA .char z vs dv) (hj : ¬ j < 0 ∧ j < z) (hv : vs.getD j.toNatClampNeg dv = v)
    (k : G l Z a0 EL tbl n0 code maxL ret R own mname Q h cells slots (pc + 1) L (v :: S)) : G l Z a0 EL tbl n0 code maxL ret R own mname Q h cells slots pc L (.int j :: .ref a :: S) := by
  intro p e s m args below meth c T vm0 k0 locs P
  obtain ⟨hx, hby, hml, hret, hlk, hnm, hEL, hw, X, eT, r⟩ := id P
  obtain ⟨hS, hk, hZ, -⟩ := r
  obtain ⟨cl, A1, A2, A3, A4, A5, A6⟩ := A
  exact back_steps (fun t ht => X.caload hx (by rw [eT]; exact A1.1) (State.isArrayOf_alike (s := Z) hZ.alike A1.2.1) A1.2.2 (inb_of A3 hj) (A5.at (inb_of A3 hj) hv) (g := mkF m pc L (.int j :: .ref a :: S)) rfl rfl (hb hby hd) t ht) (k p e s m args below meth c T vm0 k0 locs P)
theorem pdN4 : parseMethodDescriptor "([CIILjava/lang/Void;)V" = some ⟨[.array .char, .int, .int, .object "java/lang/Void"], none⟩ := by decide +kernel
theorem pdN1 : parseMethodDescriptor "([C)V" = some ⟨[.array .char], none⟩ := by decide +kernel
set_option maxRecDepth 65536 in
theorem new1e (hws : ∀ d ∈ StrChars.Road.words, d ∈ tbl) (hwe : ∀ d ∈ wordsE, d ∈ tbl) (hmem : (ST, 7) ∈ EL) {b : Addr} {kC : ClassId} {vs : List Value} {dv : Value} (hx0 : n0 ≤ x) (E : Exa Z h x ST) (V : Fld Z h x ST "value" "[B" .null) (C : Fld Z h x ST "coder" "B" (.int 0)) (K : Arv Z h b kC .char 0 vs dv) :
    Ct l Z a0 EL tbl [] n0 N1 StrChars.New1.yB 2 none ({ frames := 2, cells := 2, slots := 4, locals := 29 } : Room) #[.ref x, .ref b] h (QS Z x [] h) := by
  refine Ct.of_body pnS (fun m => efN1 m x b) (fun _ _ _ => ?_)
  refine G.seg [(0, .aload_n 0, 1), (1, .aload_n 1, 1), (2, .iconst 0, 1), (3, .aload_n 1, 1)] (by decide +kernel) (pc' := 4) (L' := #[.val (.ref x), .val (.ref b)]) (S' := [.ref b, .int 0, .ref b, .ref x]) rfl ?_
  refine G.arrlen (by decide +kernel) K ?_
  refine G.seg [(5, .aconst_null, 1)] (by decide +kernel) (pc' := 6) (L' := #[.val (.ref x), .val (.ref b)]) (S' := [.null, .int 0, .int 0, .ref b, .ref x]) rfl ?_
  refine G.special (y := N4) (idx := 27) (a := x) (argsL := [.ref b, .int 0, .int 0, .null]) (rest := []) rfl (by decide +kernel) (hws _ (by simp [StrChars.Road.words, StrChars.New4.yN])) (hws _ (by simp [StrChars.Road.words, StrChars.New4.yN])) (hws (.code N4 StrChars.New4.yB 6 none) (by simp [StrChars.Road.words, StrChars.New4.yN])) (by decide)
    ((new4e hws hwe hmem hx0 E V C).pays (W := 0) (hws _ (by simp [StrChars.Road.words, StrChars.New4.yN])) (hws _ (by simp [StrChars.Road.words])) (by decide) (by decide)) (lenOf pdN4 rfl) rfl (Nat.le_of_eq rfl) rfl (by decide) (by decide) ?_
  rintro v h' ⟨rfl, q⟩
  exact G.retV (by decide +kernel) rfl ⟨rfl, q⟩ (by decide) (by decide)
theorem up (q : lat cs) : ∀ c ∈ cs, ¬ c < 0 ∧ ¬ (65535 : Int32) < c := fun c hc => ⟨(q c hc).1, fun r => (q c hc).2 (by rw [Int32.lt_iff_toInt_lt] at r ⊢; have e1 : (65535 : Int32).toInt = 65535 := rfl; have e2 : (255 : Int32).toInt = 255 := rfl; omega)⟩
/-- **new String(char[])**, any length from 0 on -/
theorem newStr {W : Nat} (hws : ∀ d ∈ StrChars.Road.words, d ∈ tbl) (hwe : ∀ d ∈ wordsE, d ∈ tbl) (hmem : (ST, 7) ∈ EL) {b : Addr} {kC : ClassId} {dv : Value} (hx0 : n0 ≤ x) (E : Exa Z h x ST) (V : Fld Z h x ST "value" "[B" .null) (C : Fld Z h x ST "coder" "B" (.int 0)) (K : Arv Z h b kC .char (Int32.ofNat cs.length) (cs.map Value.int) dv)
    (hcs : CS Z) (hlat : lat cs) (hlen : cs.length ≤ 4000) (hf : 4 ≤ R.frames) (hlo : W + 65 ≤ R.locals) :
    BK l Z a0 EL tbl n0 R N1 3 W #[.ref x, .ref b] h 2 (cs.length + 4) (QS Z x cs h) := by
  rcases Nat.eq_zero_or_pos cs.length with h0 | h0
  · obtain rfl : cs = [] := List.eq_nil_of_length_eq_zero h0
    exact (new1e hws hwe hmem hx0 E V C K).pays (hws _ (by simp [StrChars.Road.words, StrChars.New1.yN])) (hws _ (by simp [StrChars.Road.words])) (Nat.le_trans (by decide) hf) (by show W + (2 + 11) + 29 ≤ _; omega)
  · refine BK.more (kc := 1) (ks := cs.length) (by decide) (Nat.le_add_right _ _) (BK.of_back (ws := [x]) (allS hx0 all0) (fun vm hv => sfS (safe_blank (Z := Z) hv.alike E V) sf0) fun p e below s args vm0 hw hZ O => ?_)
    obtain ⟨z, Sz, hz⟩ := hcs
    intro m meth c A g ig mk a X hg hsize hdg hW hn hp
    obtain ⟨v, B, X', ⟨Lc, ⟨q1, q2, q3, q4, q5, t, kb, r1, r2, r3, r4, r5⟩, q7⟩, st⟩ := StrChars.Road.backV (W := W) (s := s.setVm vm0) hZ (fun d hd => hw d (hws d hd)) (kI := 4) (hw _ (hwe _ (by simp [wordsE]))) (cs := cs) (bs := cs.map (fun c => c.toInt8.toInt32)) (n := cs.length) hx0 (O.1 ▸ O.2.1) E V C K (Sz.ext O.2) hz rfl rfl h0 hlen hlat rfl hf hlo m meth c A g ig mk a X hg hsize hdg hW hn hp
    exact ⟨v, B, X', ⟨Lc, ⟨q2, q3, q1, q3, q4, q5, hlat, hlen, t, kb, r4, r5⟩, q7⟩, st⟩
end Strings
end Own
end Jvm.Pilot.@@N@@
namespace Jvm.Pilot.@@N@@
namespace Own
open Jvm Jvm.ClassFile Sem Op Lib Jvm.Free Jvm.Stand Jvm.LawKit Jvm.RoadKit Bundle
section StrLen
variable {l : Launch} {Z : State} {a0 : Array Value} {EL : List (String × Nat)} {tbl : List Jvm.Cond} {n0 : Nat} {R : Room} {h h' h1 h2 : Heap} {a x y : Addr} {cs ds : List Int32}
/-- **length** of a String -/
theorem lenB {W : Nat} (hwl : ∀ d ∈ StrChars.Road.wordsLen, d ∈ tbl) (wi : Jvm.Cond.instantiable ST 4 ∈ tbl) (A : Str Z h x cs) (hcs : CS Z) (hf : 2 ≤ R.frames) (hlo : W + 25 ≤ R.locals) :
    BK l Z a0 EL tbl n0 R ⟨ST, "length", "()I"⟩ 3 W #[.ref x] h 0 0 (fun v h' => h' = h ∧ v = some (.int (Int32.ofNat cs.length))) := by
  refine BK.of_back (ws := []) all0 (fun _ _ => sf0) fun p e below s args vm0 hw hZ O => ?_
  obtain ⟨z, Sz, hz⟩ := hcs
  obtain ⟨E, C, q1, q2, b, k, V, K⟩ := A
  intro m meth c A g ig mk a X hg hsize hdg hW hn hp
  obtain ⟨v, B, X', ⟨Lc, ⟨hv, rfl, hh⟩, q7⟩, st⟩ := StrChars.Road.lenW (W := W) (s := s.setVm vm0) hZ (fun d hd => hw d (hwl d hd)) (kI := 4) (hw _ wi) E V C K (StrChars.Road.codOf rfl fun c hc => (q1 c hc).2) (up q1) (Sz.ext O.2) hz q2 hf hlo m meth c A g ig mk a X hg hsize hdg hW hn hp
  exact ⟨v, B, X', ⟨[], ⟨Fr.nil n0, by rw [hh]; exact Keep.refl _ _, hh, hv⟩, q7⟩, st⟩
end StrLen
end Own
end Jvm.Pilot.@@N@@
namespace Jvm.Pilot.@@N@@
namespace Own
open Jvm Jvm.ClassFile Sem Op Lib Jvm.Free Jvm.Stand Jvm.LawKit Jvm.RoadKit Bundle
section Bytes
variable {l : Launch} {Z : State} {a0 : Array Value} {EL : List (String × Nat)} {tbl : List Jvm.Cond} {n0 : Nat} {code : ByteArray} {maxL : Nat} {ret : Option FieldType} {R : Room} {own mname : String} {Q : Option Value → Heap → Prop} {h : Heap} {cells slots pc : Nat} {L : Array Slot} {S : List Value}
/-- bastore into a byte[], in a walk that interns nothing -/
theorem G.bastore {a : Addr} {kA : ClassId} {z j x x' : Int32} {vs : List Value} {dv : Value} {i : Nat} (hE : EL = []) (hd : decode code pc = .ok (.bastore, 1)) (A : Arv Z h a kA .byte z vs dv) (ha : n0 ≤ a) (hj : ¬ j < 0 ∧ j < z) (hi : j.toNatClampNeg = i) (hlen : i < vs.length) (hx' : nar .byte x = x')
    (k : ∀ h', Keep h h' [a] → Arv Z h' a kA .byte z (vs.set i (.int x')) dv → G l Z a0 EL tbl n0 code maxL ret R own mname Q h' cells slots (pc + 1) L S) :
    G l Z a0 EL tbl n0 code maxL ret R own mname Q h cells slots pc L (.int x :: .int j :: .ref a :: S) := by
  subst hx'
  intro p e s m args below meth c T vm0 k0 locs P
  obtain ⟨hx, hby, hml, hret, hlk, hnm, hEL, hw, X, eT, hS, hk, hZ, hown, N, H, O, Wm⟩ := P
  obtain ⟨cl, A1, A2, A3, A4, A5, A6⟩ := A
  obtain ⟨T', h', X', e', W, st⟩ := stB X hx hZ eT A1 (inb_of A3 hj) (g := mkF m pc L (.int x :: .int j :: .ref a :: S)) rfl rfl (hb hby hd)
  exact back_steps st (k h' (Keep.of_wr W) (Arv.set A1 A2 A3 A4 A5 A6 (fits_nar_byte x) W i hi hlen) p e s m args below meth c T' vm0 k0 _ ⟨hx, hby, hml, hret, hlk, hnm, hEL, hw, X', e', hS, by rw [W.size]; exact hk, hZ, hown, Fr.snoc X' N ha, H.trans (CHr.wr W (safe_nil hE) H.1), O.wr W ha, Wm⟩)
theorem nar_byte8 (x : Int32) : nar .byte x.toInt8.toInt32 = x.toInt8.toInt32 := by simp [nar]
end Bytes
end Own
end Jvm.Pilot.@@N@@
namespace Jvm.Pilot.@@N@@
namespace Own
open Jvm Jvm.ClassFile Sem Op Lib Jvm.Free Jvm.Stand Jvm.LawKit Jvm.RoadKit Bundle
section More
variable {l : Launch} {Z : State} {a0 : Array Value} {EL : List (String × Nat)} {tbl : List Jvm.Cond} {n0 : Nat} {code : ByteArray} {maxL : Nat} {ret : Option FieldType} {R : Room} {own mname : String} {Q : Option Value → Heap → Prop} {h : Heap} {cells slots pc : Nat} {L : Array Slot} {S : List Value} {a : Addr}
/-- a loop: from any of its heads one comes to the end or to a lower head -/
theorem G.loop {α : Type} (μ : α → Nat) (P : α → Prop) (J : α → Heap × Nat × Nat × Nat × Array Slot × List Value) (x0 : α) (e : J x0 = (h, cells, slots, pc, L, S)) (h0 : P x0)
    (body : ∀ x, P x → (∀ y, P y → μ y < μ x → G l Z a0 EL tbl n0 code maxL ret R own mname Q (J y).1 (J y).2.1 (J y).2.2.1 (J y).2.2.2.1 (J y).2.2.2.2.1 (J y).2.2.2.2.2) → G l Z a0 EL tbl n0 code maxL ret R own mname Q (J x).1 (J x).2.1 (J x).2.2.1 (J x).2.2.2.1 (J x).2.2.2.2.1 (J x).2.2.2.2.2) :
    G l Z a0 EL tbl n0 code maxL ret R own mname Q h cells slots pc L S := by
  have key : ∀ n x, μ x < n → P x → G l Z a0 EL tbl n0 code maxL ret R own mname Q (J x).1 (J x).2.1 (J x).2.2.1 (J x).2.2.2.1 (J x).2.2.2.2.1 (J x).2.2.2.2.2 := by
    intro n
    induction n with
    | zero => exact fun x q => absurd q (Nat.not_lt_zero _)
    | succ n ih => exact fun x q hx => body x hx fun y hy r => ih y (Nat.lt_of_lt_of_le r (Nat.le_of_lt_succ q)) hy
  have := key _ x0 (Nat.lt_succ_self _) h0
  rw [e] at this; exact this
theorem G.baload {kA : ClassId} {z j : Int32} {vs : List Value} {dv v : Value} (hd : decode code pc = .ok (.baload, 1)) (A : Arv Z h a kA .byte z vs dv) (hj : ¬ j < 0 ∧ j < z) (hv : vs.getD j.toNatClampNeg dv = v)
    (k : G l Z a0 EL tbl n0 code maxL ret R own mname Q h cells slots (pc + 1) L (v :: S)) : G l Z a0 EL tbl n0 code maxL ret R own mname Q h cells slots pc L (.int j :: .ref a :: S) := by
  intro p e s m args below meth c T vm0 k0 locs P
  obtain ⟨hx, hby, hml, hret, hlk, hnm, hEL, hw, X, eT, r⟩ := id P
  obtain ⟨hS, hk, hZ, -⟩ := r
  obtain ⟨cl, A1, A2, A3, A4, A5, A6⟩ := A
  exact back_steps (fun t ht => X.baloadBytes hx (by rw [eT]; exact A1.1) (State.isArrayOf_alike (s := Z) hZ.alike A1.2.1) A1.2.2 (inb_of A3 hj) (A5.at (inb_of A3 hj) hv) (g := mkF m pc L (.int j :: .ref a :: S)) rfl rfl (hb hby hd) t ht) (k p e s m args below meth c T vm0 k0 locs P)
theorem G.ldcI {idx : Nat} {v : Int32} (hd : decode code pc = .ok (.ldc idx, 2)) (w : Jvm.Cond.constant own idx v ∈ tbl)
    (k : G l Z a0 EL tbl n0 code maxL ret R own mname Q h cells slots (pc + 2) L (.int v :: S)) : G l Z a0 EL tbl n0 code maxL ret R own mname Q h cells slots pc L S := by
  intro p e s m args below meth c T vm0 k0 locs P
  obtain ⟨hx, hby, hml, hret, hlk, hnm, hEL, hw, X, eT, r⟩ := id P
  obtain ⟨hS, hk, hZ, hown, -⟩ := r
  exact back_steps (fun t ht => X.ldcInt hx hown (mvT hZ (hw _ w)) (g := mkF m pc L S) rfl (hb hby hd) t ht) (k p e s m args below meth c T vm0 k0 locs P)
theorem G.ldcJ {idx : Nat} {v : Int64} (hd : decode code pc = .ok (.ldc2_w idx, 3)) (w : Jvm.Cond.constantLong own idx v ∈ tbl)
    (k : G l Z a0 EL tbl n0 code maxL ret R own mname Q h cells slots (pc + 3) L (.long v :: S)) : G l Z a0 EL tbl n0 code maxL ret R own mname Q h cells slots pc L S := by
  intro p e s m args below meth c T vm0 k0 locs P
  obtain ⟨hx, hby, hml, hret, hlk, hnm, hEL, hw, X, eT, r⟩ := id P
  obtain ⟨hS, hk, hZ, hown, -⟩ := r
  exact back_steps (fun t ht => X.ldc2Long hx hown (mvT hZ (hw _ w)) (g := mkF m pc L S) rfl (hb hby hd) t ht) (k p e s m args below meth c T vm0 k0 locs P)
theorem keepSet {c c' : Cell} (q : h[a]? = some c) (h1 : c'.cls = c.cls) (h2 : c'.vm = c.vm) (h3 : c'.slots.size = c.slots.size) : Keep h (h.setIfInBounds a c') [a] := by
  refine ⟨by simp, fun x cx hx r => ?_, fun x cx hx => ?_⟩
  · have : a ≠ x := fun z => r (by simp [z])
    rw [Array.getElem?_setIfInBounds_ne this]; exact hx
  · by_cases z : a = x
    · subst z; cases q.symm.trans hx
      exact ⟨c', by rw [Array.getElem?_setIfInBounds_self_of_lt (Array.getElem?_eq_some_iff.mp q).1], h1, h2, h3⟩
    · exact ⟨cx, by rw [Array.getElem?_setIfInBounds_ne z]; exact hx, rfl, rfl, rfl⟩
theorem fits_int {v : Value} (q : fits .byte v = true) : ∃ x, v = .int x := by cases v <;> simp [fits] at q ⊢
theorem G.arrcopy {src dst : Addr} {kA kB : ClassId} {z1 z2 i1 i2 i3 : Int32} {vs ds ds' : List Value} {dv dw : Value} {o q n idx : Nat} (hE : EL = []) (hd : decode code pc = .ok (.invokestatic idx, 3))
    (w1 : Jvm.Cond.methodLink own idx arraycopyName ∈ tbl) (w2 : Jvm.Cond.native arraycopyName ∈ tbl) (w3 : Jvm.Cond.static arraycopyName ∈ tbl) (w4 : Jvm.Cond.initialized "java/lang/System" ∈ tbl)
    (A : Arv Z h src kA .byte z1 vs dv) (B : Arv Z h dst kB .byte z2 ds dw) (hn0 : n0 ≤ dst) (e1 : i1 = Int32.ofNat o) (e2 : i2 = Int32.ofNat q) (e3 : i3 = Int32.ofNat n) (ho : o < 2 ^ 31) (hq : q < 2 ^ 31) (hn : n < 2 ^ 31) (h4 : o + n ≤ z1.toNatClampNeg) (h5 : q + n ≤ z2.toNatClampNeg)
    (hds : ∀ j, j < z2.toNatClampNeg → ds'.getD j dw = if q ≤ j ∧ j < q + n then vs.getD (o + (j - q)) dv else ds.getD j dw)
    (hfr : 1 ≤ R.frames) (hlo : (S.map fun v => v.category).sum + 18 ≤ R.locals) (hsz : L.size = maxL)
    (k : ∀ h', Keep h h' [dst] → Arv Z h' dst kB .byte z2 ds' dw → G l Z a0 EL tbl n0 code maxL ret R own mname Q h' cells slots (pc + 3) L S) :
    G l Z a0 EL tbl n0 code maxL ret R own mname Q h cells slots pc L (.int i3 :: .int i2 :: .ref dst :: .int i1 :: .ref src :: S) := by
  subst e1 e2 e3
  intro p e s m args below meth c T vm0 k0 locs P
  obtain ⟨hx, hby, hml, hret, hlk, hnm, hEL, hw, X, eT, hS, hk, hZ, hown, N, H, O, Wm⟩ := P
  obtain ⟨cs, A1, A2, A3, A4, A5, A6⟩ := A
  obtain ⟨cd, B1, B2, B3, B4, B5, B6⟩ := B
  obtain ⟨s1, ks, s2, sC, s3⟩ := State.isArrayOf_alike (s := Z) (T := s.setVm vm0) hZ.alike A1.2.1
  obtain ⟨d1, kd, d2, dC, d3⟩ := State.isArrayOf_alike (s := Z) (T := s.setVm vm0) hZ.alike B1.2.1
  have eo : (Int32.ofNat o).toNatClampNeg = o := Int32.toNatClampNeg_ofNat_of_lt ho
  have eq : (Int32.ofNat q).toNatClampNeg = q := Int32.toNatClampNeg_ofNat_of_lt hq
  have en : (Int32.ofNat n).toNatClampNeg = n := Int32.toNatClampNeg_ofNat_of_lt hn
  have io : (Int32.ofNat o).toInt = o := Int32.toInt_ofNat_small ho
  have iq : (Int32.ofNat q).toInt = q := Int32.toInt_ofNat_small hq
  have iN : (Int32.ofNat n).toInt = n := Int32.toInt_ofNat_small hn
  have z0 : (0 : Int32).toInt = 0 := rfl
  have src_at : ∀ j, j < n → cs.slots.getD (o + j) .null = vs.getD (o + j) dv := fun j hj => by
    have := A5 (o + j) (by omega)
    simp [Array.getD_eq_getD_getElem?, this]
  obtain ⟨vm', X', st⟩ := X.arraycopy hx hown (mvT hZ (hw _ w1)) (mvT hZ (hw _ w2)) (mvT hZ (hw _ w3)) (mvT hZ (hw _ w4)) (src := src) (dst := dst) (srcPos := Int32.ofNat o) (destPos := Int32.ofNat q) (n := Int32.ofNat n)
    (by rw [eT]; exact A1.1) (by rw [eT]; exact B1.1) s1 d1 A1.2.2 B1.2.2 s2 d2 s3 d3 rfl (by rw [Int32.lt_iff_toInt_lt, io, z0]; omega) (by rw [Int32.lt_iff_toInt_lt, iq, z0]; omega) (by rw [Int32.lt_iff_toInt_lt, iN, z0]; omega)
    (by rw [io, iN]; omega) (by rw [iq, iN]; omega)
    (fun vm' _ i hi => by
      rw [en] at hi; rw [eo, src_at i hi]
      have f := A6 (o + i) (by omega)
      obtain ⟨x, ex⟩ := fits_int f
      rw [ex] at f ⊢
      exact ⟨f, trivial⟩)
    (g := mkF m pc L (.int (Int32.ofNat n) :: .int (Int32.ofNat q) :: .ref dst :: .int (Int32.ofNat o) :: .ref src :: S)) rfl (hsz.trans hml.symm) (rest := S) rfl (hb hby hd) hfr (by
      rw [nativeFrameWords_plain 5 (by decide)]; show 2 * 0 + _ + _ ≤ _; omega)
  have cf := Cell.storeRun_facts cd (Int32.ofNat q).toNatClampNeg (cs.stretch (Int32.ofNat o).toNatClampNeg (Int32.ofNat n).toNatClampNeg)
  have cg : ∀ j, (copied cs cd (Int32.ofNat o) (Int32.ofNat q) (Int32.ofNat n)).slots[j]? = if q ≤ j ∧ j < q + n then some (cs.slots.getD (o + (j - q)) .null) else cd.slots[j]? := Jvm.Free.Str.copied_at2 ho hq hn (by omega)
  have K : Keep h (h.setIfInBounds dst (copied cs cd (Int32.ofNat o) (Int32.ofNat q) (Int32.ofNat n))) [dst] := keepSet B1.1 cf.1 cf.2.1 cf.2.2.1
  have sz : (copied cs cd (Int32.ofNat o) (Int32.ofNat q) (Int32.ofNat n)).slots.size = cd.slots.size := cf.2.2.1
  have ival : ∀ j, j < cd.slots.size → ds'.getD j dw = if q ≤ j ∧ j < q + n then vs.getD (o + (j - q)) dv else ds.getD j dw := fun j hj => hds j (by omega)
  have A' : Arv Z (h.setIfInBounds dst (copied cs cd (Int32.ofNat o) (Int32.ofNat q) (Int32.ofNat n))) dst kB .byte z2 ds' dw := by
    refine ⟨_, ⟨by rw [Array.getElem?_setIfInBounds_self_of_lt (Array.getElem?_eq_some_iff.mp B1.1).1], ⟨fun k' => by rw [show (copied cs cd (Int32.ofNat o) (Int32.ofNat q) (Int32.ofNat n)).vm = cd.vm from cf.2.1]; exact B1.2.1.1 k', by rw [show (copied cs cd (Int32.ofNat o) (Int32.ofNat q) (Int32.ofNat n)).cls = cd.cls from cf.1]; exact B1.2.1.2⟩, by rw [show (copied cs cd (Int32.ofNat o) (Int32.ofNat q) (Int32.ofNat n)).vm = cd.vm from cf.2.1]; exact B1.2.2⟩, (show _ = cd.cls from cf.1).trans B2, sz.trans B3, B4, fun j hj => ?_, fun j hj => ?_⟩
    · rw [sz] at hj
      rw [cg, ival j hj]
      by_cases r : q ≤ j ∧ j < q + n
      · rw [if_pos r, if_pos r, src_at _ (by omega)]
      · rw [if_neg r, if_neg r]; exact B5 j hj
    · rw [sz] at hj
      rw [ival j hj]
      by_cases r : q ≤ j ∧ j < q + n
      · rw [if_pos r]; exact A6 _ (by omega)
      · rw [if_neg r]; exact B6 j hj
  refine back_steps st (k _ K A' p e s m args below meth c _ vm0 k0 _ ⟨hx, hby, hml, hret, hlk, hnm, hEL, hw, X', by show T.heap.setIfInBounds _ _ = _; rw [eT], hS, by simpa using hk, hZ, hown, N.app fun y hy => ?_, H.trans (CHr.keep K (fun _ _ => safe_nil hE) H.1), O.keep K (allS hn0 all0), Wm⟩)
  obtain ⟨w, -, rfl⟩ := List.mem_map.mp hy
  exact hn0
end More
end Own
end Jvm.Pilot.@@N@@
namespace Jvm.Pilot.@@N@@
namespace Own
open Jvm Jvm.ClassFile Sem Op Lib Jvm.Free Jvm.Stand Jvm.LawKit Jvm.RoadKit Bundle
/-! ## 6. Numbers -/
/-- a sign from 0 to 255 -/
def b8 (x : Int32) : Prop := ¬ x < 0 ∧ ¬ (255 : Int32) < x
theorem b8_iff (x : Int32) : b8 x ↔ x.toBitVec.toNat < 256 := by
  have h1 : x.toInt = x.toBitVec.toInt := rfl
  have e0 : (0 : Int32).toInt = 0 := rfl
  have e1 : (255 : Int32).toInt = 255 := rfl
  have := x.toBitVec.isLt
  simp only [b8, Int32.lt_iff_toInt_lt, e0, e1, h1, BitVec.toInt_eq_toNat_cond]
  split <;> omega
theorem and_nat (x m : Int32) : (x &&& m).toBitVec.toNat ≤ m.toBitVec.toNat := by
  simp only [Int32.toBitVec_and, BitVec.toNat_and]; exact Nat.and_le_right
theorem ofNat_nat (x : Int32) : x = Int32.ofNat x.toBitVec.toNat := by
  apply Int32.toBitVec_inj.mp
  show _ = BitVec.ofNat 32 _
  rw [BitVec.ofNat_toNat]; simp
theorem andk (x m : Int32) (n : Nat) (hm : m.toBitVec.toNat < n) : ∃ k : Fin n, x &&& m = Int32.ofNat k.val := ⟨⟨_, Nat.lt_of_le_of_lt (and_nat x m) hm⟩, ofNat_nat _⟩
theorem b8_and (x : Int32) : b8 (x &&& 255) := (b8_iff _).mpr (Nat.lt_of_le_of_lt (and_nat x 255) (by decide))
theorem b8_xor {x y : Int32} (hx : b8 x) (hy : b8 y) : b8 (x ^^^ y) := by
  rw [b8_iff] at *
  simp only [Int32.toBitVec_xor, BitVec.toNat_xor]
  exact Nat.xor_lt_two_pow (n := 8) hx hy
theorem b8_cases {x : Int32} (hx : b8 x) : ∃ k : Fin 256, x = Int32.ofNat k.val := ⟨⟨_, (b8_iff x).mp hx⟩, ofNat_nat x⟩
/-- (char) of such a sign is itself -/
theorem b8_c {x : Int32} (hx : b8 x) : x.toUInt32.toUInt16.toUInt32.toInt32 = x := by
  obtain ⟨k, rfl⟩ := b8_cases hx
  clear hx; revert k; decide +kernel
theorem b8_ci {x : Int32} (hx : b8 x) : b8 x.toUInt32.toUInt16.toUInt32.toInt32 := by rw [b8_c hx]; exact hx
theorem nar_b8 {x : Int32} (hx : b8 x) : nar .char x = x := b8_c hx
theorem lat0 : lat [] := fun _ h => nomatch h
theorem latS {c : Int32} {cs : List Int32} (h : b8 c) (r : lat cs) : lat (c :: cs) := fun x hx => (List.mem_cons.mp hx).elim (fun e => e ▸ h) (r x)
theorem nar_z {x : Int32} (h : x = 0 ∨ x = 1) : nar .boolean x = x := by rcases h with rfl | rfl <;> rfl
theorem nar_ite {p : Prop} [Decidable p] : nar .boolean (if p then 1 else 0) = if p then 1 else 0 := by split <;> rfl
theorem narr_z {x : Int32} (h : x = 0 ∨ x = 1) : narrow .boolean (.int x) = .int x := by rcases h with rfl | rfl <;> rfl
theorem fits_z {x : Int32} (h : x = 0 ∨ x = 1) : fits .boolean (.int x) = true := by rcases h with rfl | rfl <;> rfl
theorem fits_r {n : String} {v : Value} (h : v.isRef = true) : fits (.object n) v = true := by rcases ref_cases h with rfl | ⟨a, rfl⟩ <;> rfl
theorem and3 (x : Int32) : x &&& 3 = 0 ∨ x &&& 3 = 1 ∨ x &&& 3 = 2 ∨ x &&& 3 = 3 := by
  obtain ⟨k, e⟩ := andk x 3 4 (by decide); rw [e]; clear e; revert k; decide +kernel
theorem and3rem3 (x : Int32) : (x &&& 3) % 3 = 0 ∨ (x &&& 3) % 3 = 1 ∨ (x &&& 3) % 3 = 2 := by
  obtain ⟨k, e⟩ := andk x 3 4 (by decide); rw [e]; clear e; revert k; decide +kernel
theorem and1 (x : Int32) : x &&& 1 = 0 ∨ x &&& 1 = 1 := by
  obtain ⟨k, e⟩ := andk x 1 2 (by decide); rw [e]; clear e; revert k; decide +kernel
end Own
end Jvm.Pilot.@@N@@
namespace Jvm.Pilot.@@N@@
namespace Own
open Jvm Jvm.ClassFile Sem Op Lib Jvm.Free Jvm.Stand Jvm.LawKit Jvm.RoadKit Bundle
/-- the bytes of a String of signs up to 255 -/
abbrev bys (cs : List Int32) : List Value := (cs.map fun c => c.toInt8.toInt32).map Value.int
def FM (Z : State) : Prop := ∃ v : Value, Sta Z Z.heap "jdk/internal/util/Preconditions" "SIOOBE_FORMATTER" "Ljava/util/function/BiFunction;" v ∧ v.isRef = true
theorem getD_bytes (cs : List Int32) (i : Nat) : (bys cs).getD i (.int 0) = .int ((cs.getD i 0).toInt8.toInt32) := by
  simp only [List.getD_eq_getElem?_getD, List.getElem?_map]
  cases cs[i]? <;> rfl
theorem lat_getD {cs : List Int32} (q : lat cs) (i : Nat) : b8 (cs.getD i 0) := by
  rw [List.getD_eq_getElem?_getD]
  cases e : cs[i]? with
  | none => exact ⟨by decide, by decide⟩
  | some c => exact q c (List.mem_of_getElem? e)
theorem nar_back {c : Int32} (hc : b8 c) : nar .char (c.toInt8.toInt32 &&& 255).toUInt32.toUInt16.toUInt32.toInt32 = c := by
  obtain ⟨k, rfl⟩ := b8_cases hc
  clear hc; revert k; decide +kernel
theorem byte_eq {c : Int32} (hc : b8 c) : c.toInt8.toInt32 = (46 : Int32).toInt8.toInt32 → c = 46 := by
  obtain ⟨k, rfl⟩ := b8_cases hc
  clear hc; revert k; decide +kernel
theorem sub1 (x : Int32) : x - 1 = x + (-1) := by
  exact Int32.sub_eq_add_neg x 1
theorem sub0 (x : Int32) : x - 0 = x := by simp
theorem add0 (x : Int32) : (0 : Int32) + x = x := by simp
theorem i32 {n : Nat} (q : n ≤ 4000) : (Int32.ofNat n).toInt = n := Int32.toInt_ofNat_small (by omega)
theorem clampk {n : Nat} (q : n ≤ 4000) : (Int32.ofNat n).toNatClampNeg = n := Int32.toNatClampNeg_ofNat_of_lt (by omega)
theorem pred1 (k : Nat) : Int32.ofNat (k + 1) + (-1) = Int32.ofNat k := by
  rw [← sub1]
  apply Int32.toBitVec_inj.mp
  show BitVec.ofNat 32 (k + 1) - BitVec.ofNat 32 1 = BitVec.ofNat 32 k
  rw [BitVec.ofNat_add]; exact BitVec.add_sub_cancel _ _
theorem nlt {i n : Nat} (hn : n ≤ 4000) (q : i < n) : ¬ Int32.ofNat i < 0 ∧ Int32.ofNat i < Int32.ofNat n := by
  have e0 : (0 : Int32).toInt = 0 := rfl
  rw [Int32.lt_iff_toInt_lt, Int32.lt_iff_toInt_lt, i32 hn, i32 (by omega), e0]; omega
theorem n0lt {i : Nat} (hn : i ≤ 4000) (q : 0 < i) : (0 : Int32) < Int32.ofNat i := by
  have e0 : (0 : Int32).toInt = 0 := rfl
  rw [Int32.lt_iff_toInt_lt, i32 hn, e0]; omega
theorem ninj {i n : Nat} (hi : i ≤ 4000) (hn : n ≤ 4000) (q : Int32.ofNat i = Int32.ofNat n) : i = n := by
  have := congrArg Int32.toInt q; rw [i32 hi, i32 hn] at this; omega
/-- the last place of '.' among the first k signs, else -1 -/
def li (cs : List Int32) : Nat → Int32
  | 0 => -1
  | k + 1 => if cs.getD k 0 = 46 then Int32.ofNat k else li cs k
theorem li_cases (cs : List Int32) : ∀ k, li cs k = -1 ∨ ∃ m, m < k ∧ li cs k = Int32.ofNat m
  | 0 => Or.inl rfl
  | k + 1 => by
    by_cases q : cs.getD k 0 = 46
    · exact Or.inr ⟨k, Nat.lt_succ_self k, if_pos q⟩
    · have e : li cs (k + 1) = li cs k := if_neg q
      rw [e]
      exact (li_cases cs k).imp id fun ⟨m, h1, h2⟩ => ⟨m, Nat.lt_succ_of_lt h1, h2⟩
theorem li_pos {cs : List Int32} (hl : cs.length ≤ 4000) (q : 0 < li cs cs.length) : ∃ m, 0 < m ∧ m < cs.length ∧ li cs cs.length = Int32.ofNat m := by
  rcases li_cases cs cs.length with e | ⟨m, h1, h2⟩
  · rw [e] at q; exact absurd q (by decide)
  · refine ⟨m, ?_, h1, h2⟩
    rw [h2, Int32.lt_iff_toInt_lt, i32 (by omega)] at q
    have e0 : (0 : Int32).toInt = 0 := rfl
    omega
theorem take_bytes {cs : List Int32} {m j : Nat} (q : j < m) : (bys (cs.take m)).getD j (.int 0) = (bys cs).getD j (.int 0) := by
  rw [getD_bytes, getD_bytes]; simp [List.getD_eq_getElem?_getD, List.getElem?_take, q]
theorem take_getD {cs : List Int32} {m j : Nat} (q : j < m) : (cs.take m).getD j 0 = cs.getD j 0 := by
  simp [List.getD_eq_getElem?_getD, List.getElem?_take, q]
end Own
end Jvm.Pilot.@@N@@
namespace Jvm.Pilot.@@N@@
namespace Own
open Jvm Jvm.ClassFile Sem Op Lib Jvm.Free Jvm.Stand Jvm.LawKit Jvm.RoadKit Bundle
section SBk
variable {l : Launch} {Z : State} {a0 : Array Value} {EL : List (String × Nat)} {tbl : List Jvm.Cond} {n0 : Nat} {code : ByteArray} {maxL : Nat} {ret : Option FieldType} {R : Room} {own mname : String} {Q : Option Value → Heap → Prop} {h : Heap} {cells slots pc : Nat} {L : Array Slot} {S : List Value} {a b : Addr} {vm : Vm} {kb : ClassId} {z : Int32} {vs : List Value} {d : Value}
/-- no constant of EL has n signs -/
def NoLen (Z : State) (a0 : Array Value) (EL : List (String × Nat)) (n : Nat) : Prop := ∀ p ∈ EL, ∃ text : String, (Jvm.Cond.stringLink p.1 p.2 text).before a0 Z = true ∧ (∀ c ∈ text.toList, c.toNat < 256) ∧ text.toList.length ≠ n
theorem NoLen.nil {n : Nat} : NoLen Z a0 [] n := fun _ hp => nomatch hp
theorem NoLen.cons {text : String} {ix n : Nat} (w : (Jvm.Cond.stringLink own ix text).before a0 Z = true) (ht : ∀ c ∈ text.toList, c.toNat < 256) (hn : text.toList.length ≠ n) (E : NoLen Z a0 EL n) : NoLen Z a0 ((own, ix) :: EL) n := fun p hp => by
  rcases List.mem_cons.mp hp with rfl | hp
  · exact ⟨text, w, ht, hn⟩
  · exact E p hp
/-- a byte[] of a length that no constant has is no constant's -/
theorem safe_sz (hZ : Z.Warmed39 vm) (hT : NoLen Z a0 EL z.toNatClampNeg) (A : Arv Z h b kb .byte z vs d) : Safe Z EL vm h b := fun B => by
  obtain ⟨cl, A1, A2, A3, A4, -⟩ := A
  obtain ⟨p, hp, u, a, hb, q, hq, F, hy⟩ := B
  have hal := hZ.alike
  rcases hy with rfl | rfl
  · obtain ⟨A1, ⟨-, kA, hkA, compA, hkindA⟩, -⟩ := A1
    obtain ⟨kA', hkA', ekA⟩ := hal.2.2 _ _ hkA
    cases (show h[q.sa]? = some q.sC from F.ha).symm.trans A1
    obtain ⟨cS, ⟨-, -, e⟩, ⟨kS, g1, g2, -⟩, -⟩ := F
    subst e
    cases (show vm.classes[q.sC.cls]? = some kS from g1).symm.trans hkA'
    rw [ekA] at g2
    have := hkindA.symm.trans g2
    cases this
  · cases (show h[q.sd]? = some q.SA from F.hd).symm.trans A1.1
    obtain ⟨text, wl, ht, hne⟩ := hT p hp
    obtain ⟨c, k', cf, i, hc, hk', hcf', hpool, hu, -⟩ := hb
    have wl' : (Jvm.Cond.stringLink p.1 p.2 text).before a0 (Wst Z vm h) = true := mvS (s := { Z with heap := h }) hZ wl
    obtain ⟨k, cf0, i0, units0, hk, hcf, hp0, hu0, hnm, htext, -⟩ := Cond.stringLink_spec (s := Wst Z vm h) hc wl'
    cases hk'.symm.trans hk
    cases hcf'.symm.trans hcf
    cases hpool.symm.trans hp0
    cases hu.symm.trans hu0
    have e := Jvm.ClassFile.units_of_text htext ht
    obtain ⟨cS, -, -, -, hs⟩ := F
    have e2 : q.SA.slots.size = u.size := by rw [hs, stringBytes, if_pos (Jvm.ClassFile.lat_of_text htext ht)]; simp
    apply hne
    rw [← A3, e2, ← Array.length_toList, e]; simp
section Calls
variable {y z' : MethodName} {idx W kc ks : Nat} {argsL rest : List Value} {Qc : Option Value → Heap → Prop}
theorem decl_of {bytes : ByteArray} {mL : Nat} {rt : Option FieldType} (w3 : (Jvm.Cond.instanceMethod y).before a0 Z = true) (wc : (Jvm.Cond.code y bytes mL rt).before a0 Z = true) : (Jvm.Cond.declares y).before a0 Z = true := by
  obtain ⟨m, meth, h1, h2, h3, -⟩ := Cond.instanceMethod_spec (s := Z) (args := a0) w3
  obtain ⟨m2, cM, q1, -, -, -, -, -, -, hsig⟩ := Cond.code_spec h1 (show (Jvm.Cond.code y bytes mL rt).before a0 Z = true from wc)
  cases h2.symm.trans q1
  simp only [Cond.before, Cond.holds, Cond.value, h1, h2, Option.bind_some, Option.map_some]
  simp [h3, hsig]
theorem G.virtualP {C : String} {bytes : ByteArray} {mL : Nat} {rt : Option FieldType} (hd : decode code pc = .ok (.invokevirtual idx, 3)) (w1 : Jvm.Cond.methodLink own idx y ∈ tbl) (w2 : Jvm.Cond.code y bytes mL rt ∈ tbl) (w3 : Jvm.Cond.selects C y y ∈ tbl) (w4 : Jvm.Cond.instanceMethod y ∈ tbl) (hy : y.cls ≠ "java/lang/invoke/MethodHandle" ∧ y.cls ≠ "java/lang/invoke/VarHandle") (E : Exa Z h a C)
    (hB : BK l Z a0 EL tbl n0 R y 3 W (.ref a :: argsL).toArray h kc ks Qc) (hlen : ∀ sig, parseMethodDescriptor y.desc = some sig → argsL.length = sig.parameters.length) (hs : S = argsL.reverse ++ .ref a :: rest) (hW : 2 * 0 + (rest.map fun v => v.category).sum ≤ W) (hsz : L.size = maxL) (hc : cells + kc ≤ R.cells) (hl : slots + ks ≤ R.slots)
    (k : ∀ v h', Qc v h' → G l Z a0 EL tbl n0 code maxL ret R own mname Q h' (cells + kc) (slots + ks) (pc + 3) L (v.toList ++ rest)) : G l Z a0 EL tbl n0 code maxL ret R own mname Q h cells slots pc L S := by
  intro p e s m args below meth c T vm0 k0 locs P
  obtain ⟨hx, hby, hml, hret, hlk, hnm, hEL, hw, X, eT, hS, hk, hZ, hown, N, H, O, Wm⟩ := P
  obtain ⟨cB, kB, f1, f2, f3⟩ := isOf (s := s.setVm vm0) hZ eT E
  obtain ⟨v, vm₁, ⟨T', L', k', n'⟩, hW1, X', hS', hgr, ⟨Lc, ⟨q1, q2, q3⟩, e1, e2, e3, C1, W1⟩, st⟩ := X.virtualBackS hx hown (mvT hZ (hw _ w1)) (mvT hZ (decl_of (hw _ w4) (hw _ w2))) (notFace_of_selects (args := #[]) (mvT hZ (hw _ w3))) (mvT hZ (hw _ w3)) (mvT hZ (hw _ w4)) hy (hB p e below s args vm0 hEL hw hZ H.1 O) f1 f3 (g := mkF m pc L S) rfl (hsz.trans hml.symm) (Steps.refl _) hlen hs hW (hb hby hd) (fun _ _ => ⟨rfl, eT, hc, hl⟩)
  dsimp only [Pt.U, Pt.locs, Pt.cells, Pt.slots] at X' hS' hgr q2 q3 e1 e2 e3 C1 W1 st
  subst e1 e2 e3
  obtain ⟨X2, S2, Z2, o2⟩ := rebS hS hk X' hS' (by rw [← eT]; exact hgr) hZ hown
  exact back_steps (fun t ht => st.trans ht) (k v T'.heap q3 p e s m args below meth c T' T'.vm T'.heap.size _ ⟨hx, hby, hml, hret, hlk, hnm, hEL, hw, X2, rfl, S2, Nat.le_refl _, Z2, o2, N.app q1, H.trans C1, q2, fun q => State.WarmedH.trans (t := s.setVm vm0) (Wm q) (W1 q)⟩)
/-- invokespecial of a superclass's method, by the word 'declares' -/
theorem G.super {C K : String} {y1 : MethodName} {bytes : ByteArray} {mL : Nat} {rt : Option FieldType} (hn : y.name ≠ "<init>") (hd : decode code pc = .ok (.invokespecial idx, 3)) (w1 : Jvm.Cond.methodLink own idx y ∈ tbl) (w2 : Jvm.Cond.declares y ∈ tbl) (w3 : Jvm.Cond.instanceMethod y ∈ tbl) (w4 : Jvm.Cond.superclass own y.cls ∈ tbl)
    (w5 : Jvm.Cond.selects C y1 y1 ∈ tbl) (hy1 : y1.cls = y.cls) (wc : Jvm.Cond.code y bytes mL rt ∈ tbl) (hy : y.cls ≠ "java/lang/invoke/MethodHandle" ∧ y.cls ≠ "java/lang/invoke/VarHandle") (F : Ins Z h a K true)
    (hB : BK l Z a0 EL tbl n0 R y 3 W (.ref a :: argsL).toArray h kc ks Qc) (hlen : ∀ sig, parseMethodDescriptor y.desc = some sig → argsL.length = sig.parameters.length) (hs : S = argsL.reverse ++ .ref a :: rest) (hW : 2 * 0 + (rest.map fun v => v.category).sum ≤ W) (hsz : L.size = maxL) (hc : cells + kc ≤ R.cells) (hl : slots + ks ≤ R.slots)
    (k : ∀ v h', Qc v h' → G l Z a0 EL tbl n0 code maxL ret R own mname Q h' (cells + kc) (slots + ks) (pc + 3) L (v.toList ++ rest)) : G l Z a0 EL tbl n0 code maxL ret R own mname Q h cells slots pc L S := by
  intro p e s m args below meth c T vm0 k0 locs P
  obtain ⟨hx, hby, hml, hret, hlk, hnm, hEL, hw, X, eT, hS, hk, hZ, hown, N, H, O, Wm⟩ := P
  have same : (Jvm.Cond.sameMethod y.cls y.cls y.name y.desc).before a0 Z = true := by
    obtain ⟨m0, me0, n0', -, -, -⟩ := Cond.declares_spec (s := Z) (args := a0) (hw _ w2)
    have fnd := State.methodFound?_of_named n0' hy
    have fc := findClass_of_methodNamed n0'
    obtain ⟨c2, r2, m2, g1, g2, g3, g4, kP, hkP, hkPi⟩ := Cond.selects_spec (s := Z) (args := a0) (hw _ w5)
    have f3 := findClass_of_methodNamed g3
    rw [hy1] at f3
    have ec := Option.some.inj (fc.symm.trans f3)
    rw [← ec] at hkP
    simp only [Cond.before, Cond.holds, Cond.value, fc, fnd, n0', hkP]
    simp [hkPi]
  obtain ⟨v, vm₁, ⟨T', L', k', n'⟩, hW1, X', hS', hgr, ⟨Lc, ⟨q1, q2, q3⟩, e1, e2, e3, C1, W1⟩, st⟩ := superBackS X hx hZ hown (hw _ w1) same (hw _ w3) (hw _ w4) hn (hB p e below s args vm0 hEL hw hZ H.1 O) eT F (g := mkF m pc L S) rfl (hsz.trans hml.symm) (hw _ wc) hlen hs hW (hb hby hd) (fun _ _ => ⟨rfl, eT, hc, hl⟩)
  dsimp only [Pt.U, Pt.locs, Pt.cells, Pt.slots] at X' hS' hgr q2 q3 e1 e2 e3 C1 W1 st
  subst e1 e2 e3
  obtain ⟨X2, S2, Z2, o2⟩ := rebS hS hk X' hS' (by rw [← eT]; exact hgr) hZ hown
  exact back_steps (fun t ht => st.trans ht) (k v T'.heap q3 p e s m args below meth c T' T'.vm T'.heap.size _ ⟨hx, hby, hml, hret, hlk, hnm, hEL, hw, X2, rfl, S2, Nat.le_refl _, Z2, o2, N.app q1, H.trans C1, q2, fun q => State.WarmedH.trans (t := s.setVm vm0) (Wm q) (W1 q)⟩)
/-- invokevirtual that selects another method than the named one -/
theorem G.virtualZ {C : String} {y1 : MethodName} (hd : decode code pc = .ok (.invokevirtual idx, 3)) (w1 : Jvm.Cond.methodLink own idx y ∈ tbl) (w2 : Jvm.Cond.declares y ∈ tbl) (w3 : Jvm.Cond.selects C y z' ∈ tbl) (w4 : Jvm.Cond.instanceMethod z' ∈ tbl) (w5 : Jvm.Cond.selects C y1 y1 ∈ tbl) (hy1 : y1.cls = y.cls) (hy : y.cls ≠ "java/lang/invoke/MethodHandle" ∧ y.cls ≠ "java/lang/invoke/VarHandle") (E : Exa Z h a C)
    (hB : BK l Z a0 EL tbl n0 R z' 3 W (.ref a :: argsL).toArray h kc ks Qc) (hlen : ∀ sig, parseMethodDescriptor y.desc = some sig → argsL.length = sig.parameters.length) (hs : S = argsL.reverse ++ .ref a :: rest) (hW : 2 * 0 + (rest.map fun v => v.category).sum ≤ W) (hsz : L.size = maxL) (hc : cells + kc ≤ R.cells) (hl : slots + ks ≤ R.slots)
    (k : ∀ v h', Qc v h' → G l Z a0 EL tbl n0 code maxL ret R own mname Q h' (cells + kc) (slots + ks) (pc + 3) L (v.toList ++ rest)) : G l Z a0 EL tbl n0 code maxL ret R own mname Q h cells slots pc L S := by
  intro p e s m args below meth c T vm0 k0 locs P
  obtain ⟨hx, hby, hml, hret, hlk, hnm, hEL, hw, X, eT, hS, hk, hZ, hown, N, H, O, Wm⟩ := P
  obtain ⟨cB, kB, f1, f2, f3⟩ := isOf (s := s.setVm vm0) hZ eT E
  have nf : NotFace (s.setVm vm0) y := fun r0 h0 => by
    obtain ⟨c2, r2, m2, g1, g2, g3, g4, kP, hkP, hkPi⟩ := Cond.selects_spec (s := s.setVm vm0) (args := args) (mvT hZ (hw _ w5))
    have f3 := findClass_of_methodNamed g3
    have f0 := findClass_of_methodNamed h0
    rw [hy1] at f3
    have ec := Option.some.inj (f0.symm.trans f3)
    exact ⟨kP, by rw [ec]; exact hkP, hkPi⟩
  obtain ⟨v, vm₁, ⟨T', L', k', n'⟩, hW1, X', hS', hgr, ⟨Lc, ⟨q1, q2, q3⟩, e1, e2, e3, C1, W1⟩, st⟩ := X.virtualBackS hx hown (mvT hZ (hw _ w1)) (mvT hZ (hw _ w2)) nf (mvT hZ (hw _ w3)) (mvT hZ (hw _ w4)) hy (hB p e below s args vm0 hEL hw hZ H.1 O) f1 f3 (g := mkF m pc L S) rfl (hsz.trans hml.symm) (Steps.refl _) hlen hs hW (hb hby hd) (fun _ _ => ⟨rfl, eT, hc, hl⟩)
  dsimp only [Pt.U, Pt.locs, Pt.cells, Pt.slots] at X' hS' hgr q2 q3 e1 e2 e3 C1 W1 st
  subst e1 e2 e3
  obtain ⟨X2, S2, Z2, o2⟩ := rebS hS hk X' hS' (by rw [← eT]; exact hgr) hZ hown
  exact back_steps (fun t ht => st.trans ht) (k v T'.heap q3 p e s m args below meth c T' T'.vm T'.heap.size _ ⟨hx, hby, hml, hret, hlk, hnm, hEL, hw, X2, rfl, S2, Nat.le_refl _, Z2, o2, N.app q1, H.trans C1, q2, fun q => State.WarmedH.trans (t := s.setVm vm0) (Wm q) (W1 q)⟩)
end Calls
end SBk
end Own
end Jvm.Pilot.@@N@@
namespace Jvm.Pilot.@@N@@
namespace Own
open Jvm Jvm.ClassFile Sem Op Lib Jvm.Free Jvm.Stand Jvm.LawKit Jvm.RoadKit Bundle
abbrev ASB : String := "java/lang/AbstractStringBuilder"
/-- a StringBuilder of capacity 16 that holds cs -/
def SBs (Z : State) (h : Heap) (t b : Addr) (kb : ClassId) (cs : List Int32) : Prop := Exa Z h t "java/lang/StringBuilder" ∧ Fld Z h t ASB "value" "[B" (.ref b) ∧ Fld Z h t ASB "coder" "B" (.int 0) ∧ Fld Z h t ASB "count" "I" (.int (Int32.ofNat cs.length)) ∧ lat cs ∧ cs.length ≤ 16 ∧ Arv Z h b kb .byte 16 (bys cs) (.int 0)
theorem SBs.keep {Z : State} {h h' : Heap} {t b : Addr} {kb : ClassId} {cs : List Int32} {ws : List Addr} (F : SBs Z h t b kb cs) (K : Keep h h' ws) (q1 : t ∉ ws) (q2 : b ∉ ws) : SBs Z h' t b kb cs := by
  obtain ⟨a1, a2, a3, a4, a5, a6, a7⟩ := F
  exact ⟨a1.keep K, a2.keep K q1, a3.keep K q1, a4.keep K q1, a5, a6, a7.keep K q2⟩
theorem ens (k : Nat) (hk : k ≤ 16) : ¬ (0 : Int32) < Int32.ofNat k - ((16 : Int32) >>> ((0 : Int32) &&& 31)) := by
  have : ∀ k : Fin 17, ¬ (0 : Int32) < Int32.ofNat k.val - ((16 : Int32) >>> ((0 : Int32) &&& 31)) := by decide +kernel
  exact this ⟨k, by omega⟩
theorem shl0 (k : Nat) (hk : k ≤ 16) : (Int32.ofNat k) <<< ((0 : Int32) &&& 31) = Int32.ofNat k := by
  have : ∀ k : Fin 17, (Int32.ofNat k.val) <<< ((0 : Int32) &&& 31) = Int32.ofNat k.val := by decide +kernel
  exact this ⟨k, by omega⟩
theorem addN (a b : Nat) : Int32.ofNat a + Int32.ofNat b = Int32.ofNat (a + b) := by
  apply Int32.toBitVec_inj.mp
  show BitVec.ofNat 32 a + BitVec.ofNat 32 b = BitVec.ofNat 32 (a + b)
  rw [BitVec.ofNat_add]
theorem app_bytes (cs ds : List Int32) (j : Nat) : (bys (cs ++ ds)).getD j (.int 0) = if cs.length ≤ j ∧ j < cs.length + ds.length then (bys ds).getD (0 + (j - cs.length)) (.int 0) else (bys cs).getD j (.int 0) := by
  rw [getD_bytes, getD_bytes, getD_bytes]
  by_cases q : cs.length ≤ j ∧ j < cs.length + ds.length
  · rw [if_pos q]; congr 3; simp [List.getD_eq_getElem?_getD, List.getElem?_append_right q.1]
  · rw [if_neg q]
    by_cases r : j < cs.length
    · congr 3; simp [List.getD_eq_getElem?_getD, List.getElem?_append_left r]
    · have r1 : (cs ++ ds)[j]? = none := List.getElem?_eq_none (by simp; omega)
      have r2 : cs[j]? = none := List.getElem?_eq_none (by omega)
      simp [List.getD_eq_getElem?_getD, r1, r2]
theorem bys_set (cs : List Int32) (c : Int32) : (bys (cs ++ [0])).set cs.length (.int c.toInt8.toInt32) = bys (cs ++ [c]) := by
  simp [List.set_append]
theorem bys_pad (cs : List Int32) (n i : Nat) : (bys (cs ++ List.replicate n 0)).getD i (.int 0) = (bys cs).getD i (.int 0) := by
  rw [getD_bytes, getD_bytes]; congr 3
  simp only [List.getD_eq_getElem?_getD]
  by_cases r : i < cs.length
  · rw [List.getElem?_append_left r]
  · rw [List.getElem?_append_right (by omega), List.getElem?_replicate, List.getElem?_eq_none (by omega)]
    split <;> rfl
theorem lat_app {cs ds : List Int32} (p : lat cs) (q : lat ds) : lat (cs ++ ds) := fun c hc => (List.mem_append.mp hc).elim (p c) (q c)
theorem neSz {Z : State} {h : Heap} {b b' : Addr} {k k' : ClassId} {ty ty' : FieldType} {z z' : Int32} {vs vs' : List Value} {d d' : Value} (A : Arv Z h b k ty z vs d) (B : Arv Z h b' k' ty' z' vs' d') (q : z.toNatClampNeg ≠ z'.toNatClampNeg) : b ≠ b' := fun e => by
  subst e
  obtain ⟨c, A1, -, A3, -⟩ := A
  obtain ⟨c', B1, -, B3, -⟩ := B
  cases A1.1.symm.trans B1.1
  exact q (A3.symm.trans B3)
theorem Str.keepSB {Z : State} {a0 : Array Value} {h h' : Heap} {s t b : Addr} {kb : ClassId} {cs ds : List Int32} (A : Str Z h s ds) (F : SBs Z h t b kb cs) (K : Keep h h' [t, b]) (hl : ds.length < 16) (wi : (Jvm.Cond.instantiable "java/lang/StringBuilder" 4).before a0 Z = true) (wS : (Jvm.Cond.instantiable ST 4).before a0 Z = true) : Str Z h' s ds := by
  obtain ⟨E, C1, q1, q2, v, k, V, B⟩ := A
  have n1 : s ≠ t := ne_exa E F.1 (by decide)
  have n2 : s ≠ b := Exa.neArv E F.2.2.2.2.2.2 wS
  have n3 : v ≠ t := Ne.symm (Exa.neArv F.1 B wi)
  have n4 : v ≠ b := neSz B F.2.2.2.2.2.2 (by rw [clampk q2]; show ds.length ≠ 16; omega)
  exact ⟨E.keep K, C1.keep K (ninS n1 (ninS n2 nin0)), q1, q2, v, k, V.keep K (ninS n1 (ninS n2 nin0)), B.keep K (ninS n3 (ninS n4 nin0))⟩
end Own
end Jvm.Pilot.@@N@@
namespace Jvm.Pilot.@@N@@
open Jvm Jvm.ClassFile Sem Op Lib Jvm.Free Jvm.Stand Jvm.LawKit Jvm.RoadKit Bundle Jvm.Pilot.@@N@@.Jvm.D Own
theorem pn0 : plainName "java/lang/String" = true := by first | (simp [plainName, overriddenIn]; done) | decide +kernel
theorem pn1 : plainName "jdk/internal/util/Preconditions" = true := by first | (simp [plainName, overriddenIn]; done) | decide +kernel
theorem pd0 : parseMethodDescriptor "(IILjava/util/function/BiFunction;)I" = some ⟨[.int, .int, .object "java/util/function/BiFunction"], some (.int)⟩ := by decide +kernel
theorem pd1 : parseMethodDescriptor "(II)V" = some ⟨[.int, .int], none⟩ := by decide +kernel
theorem pn2 : plainName "java/lang/StringLatin1" = true := by first | (simp [plainName, overriddenIn]; done) | decide +kernel
theorem pd2 : parseMethodDescriptor "()Z" = some ⟨[], some (.boolean)⟩ := by decide +kernel
theorem pd3 : parseMethodDescriptor "([BI)C" = some ⟨[.array (.byte), .int], some (.char)⟩ := by decide +kernel
theorem pn3 : plainFor ⟨"java/lang/Math", "min", "(II)I"⟩ = true := by decide +kernel
theorem pn4 : plainName "java/lang/AbstractStringBuilder" = true := by first | (simp [plainName, overriddenIn]; done) | decide +kernel
theorem pd4 : parseMethodDescriptor "(I)V" = some ⟨[.int], none⟩ := by decide +kernel
theorem pn5 : plainName "java/lang/StringBuilder" = true := by first | (simp [plainName, overriddenIn]; done) | decide +kernel
theorem pd5 : parseMethodDescriptor "()B" = some ⟨[], some (.byte)⟩ := by decide +kernel
theorem pd6 : parseMethodDescriptor "(Ljava/lang/String;)V" = some ⟨[.object "java/lang/String"], none⟩ := by decide +kernel
theorem pd7 : parseMethodDescriptor "([BIB)V" = some ⟨[.array (.byte), .int, .byte], none⟩ := by decide +kernel
theorem pd8 : parseMethodDescriptor "()I" = some ⟨[], some (.int)⟩ := by decide +kernel
theorem pd9 : parseMethodDescriptor "(ILjava/lang/String;)V" = some ⟨[.int, .object "java/lang/String"], none⟩ := by decide +kernel
theorem pd10 : parseMethodDescriptor "(Ljava/lang/String;)Ljava/lang/AbstractStringBuilder;" = some ⟨[.object "java/lang/String"], some (.object "java/lang/AbstractStringBuilder")⟩ := by decide +kernel
theorem pd11 : parseMethodDescriptor "(C)Z" = some ⟨[.char], some (.boolean)⟩ := by decide +kernel
theorem pd12 : parseMethodDescriptor "(C)Ljava/lang/AbstractStringBuilder;" = some ⟨[.char], some (.object "java/lang/AbstractStringBuilder")⟩ := by decide +kernel
theorem pn6 : plainName "java/util/Arrays" = true := by first | (simp [plainName, overriddenIn]; done) | decide +kernel
theorem pd13 : parseMethodDescriptor "(II)I" = some ⟨[.int, .int], some (.int)⟩ := by decide +kernel
theorem pd14 : parseMethodDescriptor "([BII)[B" = some ⟨[.array (.byte), .int, .int], some (.array (.byte))⟩ := by decide +kernel
theorem pd15 : parseMethodDescriptor "()[B" = some ⟨[], some (.array (.byte))⟩ := by decide +kernel
theorem pd16 : parseMethodDescriptor "(Ljava/lang/AbstractStringBuilder;Ljava/lang/Void;)V" = some ⟨[.object "java/lang/AbstractStringBuilder", .object "java/lang/Void"], none⟩ := by decide +kernel
theorem pd17 : parseMethodDescriptor "(Ljava/lang/StringBuilder;)V" = some ⟨[.object "java/lang/StringBuilder"], none⟩ := by decide +kernel
theorem pd18 : parseMethodDescriptor "()V" = some ⟨[], none⟩ := by decide +kernel
theorem pn7 : plainName "com/example/tidy_drawings/tidydrawings/Html" = true := by first | (simp [plainName, overriddenIn]; done) | decide +kernel
theorem pd19 : parseMethodDescriptor "(Ljava/lang/String;)Ljava/lang/StringBuilder;" = some ⟨[.object "java/lang/String"], some (.object "java/lang/StringBuilder")⟩ := by decide +kernel
theorem pd20 : parseMethodDescriptor "(C)Ljava/lang/StringBuilder;" = some ⟨[.char], some (.object "java/lang/StringBuilder")⟩ := by decide +kernel
theorem pd21 : parseMethodDescriptor "()Ljava/lang/String;" = some ⟨[], some (.object "java/lang/String")⟩ := by decide +kernel
theorem pn8 : plainName "com/example/tidy_drawings/tidydrawings/HtmlClosePinLaw" = true := by first | (simp [plainName, overriddenIn]; done) | decide +kernel
theorem pd22 : parseMethodDescriptor "(I)C" = some ⟨[.int], some (.char)⟩ := by decide +kernel
theorem pd23 : parseMethodDescriptor "(IIICCCCC)C" = some ⟨[.int, .int, .int, .char, .char, .char, .char, .char], some (.char)⟩ := by decide +kernel
theorem pd24 : parseMethodDescriptor "(ICCC)Ljava/lang/String;" = some ⟨[.int, .char, .char, .char], some (.object "java/lang/String")⟩ := by decide +kernel
theorem pd25 : parseMethodDescriptor "(Ljava/lang/String;)Lcom/example/tidy_drawings/tidydrawings/Html;" = some ⟨[.object "java/lang/String"], some (.object "com/example/tidy_drawings/tidydrawings/Html")⟩ := by decide +kernel
theorem pd26 : parseMethodDescriptor "(Ljava/lang/String;IIIICCCCC)Z" = some ⟨[.object "java/lang/String", .int, .int, .int, .int, .char, .char, .char, .char, .char], some (.boolean)⟩ := by decide +kernel
def mkL (n c0 c1 c2 : Int32) : List Int32 := if n = 0 then [] else if n = 1 then [c0] else if n = 2 then [c0, c1] else [c0, c1, c2]
theorem sw1 : ∀ d ∈ StrChars.Road.words, d ∈ tables_1 := by decide +kernel
theorem swE : ∀ d ∈ wordsE, d ∈ tables_1 := by decide +kernel
theorem hm7 : ("java/lang/String", 7) ∈ consts_1 := by decide
/-- a String made by the law's own helper -/
def QM (Z : State) (h : Heap) (cs : List Int32) (v : Option Value) (h' : Heap) : Prop := ∃ a, v = some (.ref a) ∧ Keep h h' [] ∧ h.size ≤ a ∧ Str Z h' a cs
theorem swL : ∀ d ∈ StrChars.Road.wordsLen, d ∈ tables_1 := by decide +kernel
theorem swA : ∀ d ∈ Bundle.stringAtoms, d ∈ tables_1 := by decide +kernel
set_option maxRecDepth 65536 in
set_option maxHeartbeats 4000000 in
theorem islC (l : Launch) (Z : State) (a0 : Array Value) (n0 : Nat) (h : Heap) {EL : List (String × Nat)} (t : Addr) (cs : List Int32) (A : Str Z h t cs) (hCS : CS Z) :
    Ct l Z a0 EL tables_1 [] n0 ⟨"java/lang/String", "isLatin1", "()Z"⟩ jdk_42_method_154_code 1 (some (.boolean)) ({ frames := 0, cells := 0, slots := 0, locals := 0 } : Room) #[.ref t] h (fun v h' => h' = h ∧ v = some (.int 1)) := by
  refine Ct.of_body pn0 (L0 := #[.val (.ref t)]) (fun m => by exact ef_of rfl) (fun hEL hw hO => ?_)
  obtain ⟨z, Sz, hz⟩ := hCS
  refine G.getS (by decide +kernel) (tw 79 rfl) Sz ?_
  refine G.ifeq (o := (14)) (pc' := 17) (by decide +kernel) (by decide) rfl (fun q1 => absurd q1 hz) ?_
  intro _
  refine G.seg [(6, .aload_n 0, 1)] (by decide +kernel) (pc' := 7) (L' := #[.val (.ref t)]) (S' := [.ref t]) rfl ?_
  refine G.getF (by decide +kernel) (tw 25 rfl) A.2.1 ?_
  refine G.ifne (o := (7)) (pc' := 17) (by decide +kernel) (by decide) rfl (fun q2 => absurd rfl q2) ?_
  intro _
  refine G.seg [(13, .iconst 1, 1), (14, .goto 4, 3)] (by decide +kernel) (pc' := 18) (L' := #[.val (.ref t)]) (S' := [.int (1 : Int32)]) rfl ?_
  exact G.retN (by decide +kernel) rfl (Or.inl rfl) rfl ⟨rfl, rfl⟩ (lb rfl) (lb rfl)

set_option maxRecDepth 65536 in
set_option maxHeartbeats 4000000 in
theorem pciC (l : Launch) (Z : State) (a0 : Array Value) (n0 : Nat) (h : Heap) {EL : List (String × Nat)} (i n : Int32) (v : Value) (hv : v.isRef = true) (hi : ¬ i < 0 ∧ i < n) :
    Ct l Z a0 EL tables_1 [] n0 ⟨"jdk/internal/util/Preconditions", "checkIndex", "(IILjava/util/function/BiFunction;)I"⟩ jdk_41_method_11_code 3 (some (.int)) ({ frames := 0, cells := 0, slots := 0, locals := 0 } : Room) #[.int i, .int n, v] h (fun r h' => h' = h ∧ r = some (.int i)) := by
  refine Ct.of_body pn1 (L0 := #[.val (.int i), .val (.int n), .val (v)]) (fun m => by rcases ref_cases hv with rfl | ⟨_, rfl⟩ <;> exact ef_of rfl) (fun hEL hw hO => ?_)
  refine G.seg [(0, .iload_n 0, 1)] (by decide +kernel) (pc' := 1) (L' := #[.val (.int i), .val (.int n), .val (v)]) (S' := [.int i]) rfl ?_
  refine G.iflt (o := (8)) (pc' := 9) (by decide +kernel) (by decide) rfl (fun q1 => absurd q1 hi.1) ?_
  intro _
  refine G.seg [(4, .iload_n 0, 1), (5, .iload_n 1, 1)] (by decide +kernel) (pc' := 6) (L' := #[.val (.int i), .val (.int n), .val (v)]) (S' := [.int n, .int i]) rfl ?_
  refine G.iclt (o := (10)) (pc' := 16) (by decide +kernel) (by decide) rfl ?_ (fun q2 => absurd hi.2 q2)
  intro _
  refine G.seg [(16, .iload_n 0, 1)] (by decide +kernel) (pc' := 17) (L' := #[.val (.int i), .val (.int n), .val (v)]) (S' := [.int i]) rfl ?_
  exact G.retI (by decide +kernel) rfl ⟨rfl, rfl⟩ (lb rfl) (lb rfl)

set_option maxRecDepth 65536 in
set_option maxHeartbeats 4000000 in
theorem ckiC (l : Launch) (Z : State) (a0 : Array Value) (n0 : Nat) (h : Heap) {EL : List (String × Nat)} (i n : Int32) (hi : ¬ i < 0 ∧ i < n) (hFM : FM Z) :
    Ct l Z a0 EL tables_1 [] n0 ⟨"java/lang/String", "checkIndex", "(II)V"⟩ jdk_42_method_155_code 2 (none) ({ frames := 1, cells := 0, slots := 0, locals := 14 } : Room) #[.int i, .int n] h (fun r h' => r = none ∧ h' = h) := by
  refine Ct.of_body pn0 (L0 := #[.val (.int i), .val (.int n)]) (fun m => by exact ef_of rfl) (fun hEL hw hO => ?_)
  refine G.seg [(0, .iload_n 0, 1), (1, .iload_n 1, 1)] (by decide +kernel) (pc' := 2) (L' := #[.val (.int i), .val (.int n)]) (S' := [.int n, .int i]) rfl ?_
  obtain ⟨vF, SF, rF⟩ := hFM
  refine G.getS (by decide +kernel) (tw 191 rfl) SF ?_
  refine G.static (y := ⟨"jdk/internal/util/Preconditions", "checkIndex", "(IILjava/util/function/BiFunction;)I"⟩) (argsL := [.int i, .int n, vF]) (rest := []) (W := 0) (by decide +kernel) (tw 193 rfl) (tw 194 rfl) (tw 192 rfl) (tw 195 rfl) (by decide) ((pciC l Z a0 n0 h i n vF rF hi).pays (tw 195 rfl) (tw 192 rfl) (lb rfl) (lb rfl)) (lenOf pd0 rfl) rfl (Nat.le_of_eq rfl) rfl (lb rfl) (lb rfl) ?_
  rintro _ h1 ⟨rfl, rfl⟩
  refine G.seg [(8, .pop, 1)] (by decide +kernel) (pc' := 9) (L' := #[.val (.int i), .val (.int n)]) (S' := []) rfl ?_
  exact G.retV (by decide +kernel) rfl ⟨rfl, rfl⟩ (lb rfl) (lb rfl)

set_option maxRecDepth 65536 in
set_option maxHeartbeats 4000000 in
theorem lchC (l : Launch) (Z : State) (a0 : Array Value) (n0 : Nat) (h : Heap) {EL : List (String × Nat)} (b : Addr) (kb : ClassId) (cs : List Int32) (i : Int32) (hl : lat cs) (A : Arv Z h b kb .byte (Int32.ofNat cs.length) (bys cs) (.int 0)) (hi : ¬ i < 0 ∧ i < Int32.ofNat cs.length) (hFM : FM Z) :
    Ct l Z a0 EL tables_1 [] n0 ⟨"java/lang/StringLatin1", "charAt", "([BI)C"⟩ jdk_43_method_2_code 2 (some (.char)) ({ frames := 2, cells := 0, slots := 0, locals := 27 } : Room) #[.ref b, .int i] h (fun v h' => h' = h ∧ v = some (.int (cs.getD i.toNatClampNeg 0))) := by
  refine Ct.of_body pn2 (L0 := #[.val (.ref b), .val (.int i)]) (fun m => by exact ef_of rfl) (fun hEL hw hO => ?_)
  refine G.seg [(0, .iload_n 1, 1), (1, .aload_n 0, 1)] (by decide +kernel) (pc' := 2) (L' := #[.val (.ref b), .val (.int i)]) (S' := [.ref b, .int i]) rfl ?_
  refine G.arrlen (by decide +kernel) A ?_
  refine G.static (y := ⟨"java/lang/String", "checkIndex", "(II)V"⟩) (argsL := [.int i, .int (Int32.ofNat cs.length)]) (rest := []) (W := 0) (by decide +kernel) (tw 188 rfl) (tw 189 rfl) (tw 6 rfl) (tw 190 rfl) (by decide) ((ckiC l Z a0 n0 h i (Int32.ofNat cs.length) hi hFM).pays (tw 190 rfl) (tw 6 rfl) (lb rfl) (lb rfl)) (lenOf pd1 rfl) rfl (Nat.le_of_eq rfl) rfl (lb rfl) (lb rfl) ?_
  rintro _ h1 ⟨rfl, rfl⟩
  refine G.seg [(6, .aload_n 0, 1), (7, .iload_n 1, 1)] (by decide +kernel) (pc' := 8) (L' := #[.val (.ref b), .val (.int i)]) (S' := [.int i, .ref b]) rfl ?_
  refine G.baload (by decide +kernel) A hi (getD_bytes cs _) ?_
  refine G.seg [(9, .sipush 255, 3), (12, .iand, 1), (13, .i2c, 1)] (by decide +kernel) (pc' := 14) (L' := #[.val (.ref b), .val (.int i)]) (S' := [.int ((((cs.getD i.toNatClampNeg 0).toInt8.toInt32) &&& (255 : Int32)).toUInt32.toUInt16.toUInt32.toInt32)]) rfl ?_
  exact G.retN (by decide +kernel) rfl (Or.inr (Or.inr (Or.inl rfl))) (nar_back (lat_getD hl _)) ⟨rfl, rfl⟩ (lb rfl) (lb rfl)

set_option maxRecDepth 65536 in
set_option maxHeartbeats 4000000 in
theorem chC (l : Launch) (Z : State) (a0 : Array Value) (n0 : Nat) (h : Heap) {EL : List (String × Nat)} (t : Addr) (cs : List Int32) (i : Int32) (A : Str Z h t cs) (hCS : CS Z) (hi : ¬ i < 0 ∧ i < Int32.ofNat cs.length) (hFM : FM Z) :
    Ct l Z a0 EL tables_1 [] n0 ⟨"java/lang/String", "charAt", "(I)C"⟩ jdk_42_method_56_code 2 (some (.char)) ({ frames := 3, cells := 0, slots := 0, locals := 40 } : Room) #[.ref t, .int i] h (fun v h' => h' = h ∧ v = some (.int (cs.getD i.toNatClampNeg 0))) := by
  refine Ct.of_body pn0 (L0 := #[.val (.ref t), .val (.int i)]) (fun m => by exact ef_of rfl) (fun hEL hw hO => ?_)
  obtain ⟨-, -, hl, -, b, kb, V, B⟩ := id A
  refine G.seg [(0, .aload_n 0, 1)] (by decide +kernel) (pc' := 1) (L' := #[.val (.ref t), .val (.int i)]) (S' := [.ref t]) rfl ?_
  refine G.virtual (y := ⟨"java/lang/String", "isLatin1", "()Z"⟩) (C := "java/lang/String") (a := t) (argsL := []) (rest := []) (W := 0) (by decide +kernel) (tw 180 rfl) (tw 181 rfl) (tw 183 rfl) (tw 182 rfl) (by decide) A.1 ((islC l Z a0 n0 h t cs A hCS).pays (tw 184 rfl) (tw 6 rfl) (lb rfl) (lb rfl)) (lenOf pd2 rfl) rfl (Nat.le_of_eq rfl) rfl (lb rfl) (lb rfl) ?_
  rintro _ h1 ⟨rfl, rfl⟩
  refine G.ifeq (o := (12)) (pc' := 16) (by decide +kernel) (by decide) rfl (fun q2 => absurd q2 (by decide)) ?_
  intro _
  refine G.seg [(7, .aload_n 0, 1)] (by decide +kernel) (pc' := 8) (L' := #[.val (.ref t), .val (.int i)]) (S' := [.ref t]) rfl ?_
  refine G.getF (by decide +kernel) (tw 24 rfl) V ?_
  refine G.seg [(11, .iload_n 1, 1)] (by decide +kernel) (pc' := 12) (L' := #[.val (.ref t), .val (.int i)]) (S' := [.int i, .ref b]) rfl ?_
  refine G.static (y := ⟨"java/lang/StringLatin1", "charAt", "([BI)C"⟩) (argsL := [.ref b, .int i]) (rest := []) (W := 0) (by decide +kernel) (tw 185 rfl) (tw 186 rfl) (tw 123 rfl) (tw 187 rfl) (by decide) ((lchC l Z a0 n0 h1 b kb cs i hl B hi hFM).pays (tw 187 rfl) (tw 123 rfl) (lb rfl) (lb rfl)) (lenOf pd3 rfl) rfl (Nat.le_of_eq rfl) rfl (lb rfl) (lb rfl) ?_
  rintro _ h3 ⟨rfl, rfl⟩
  exact G.retN (by decide +kernel) rfl (Or.inr (Or.inr (Or.inl rfl))) (nar_b8 (lat_getD hl _)) ⟨rfl, rfl⟩ (lb rfl) (lb rfl)

set_option maxRecDepth 65536 in
set_option maxHeartbeats 4000000 in
theorem minC (l : Launch) (Z : State) (a0 : Array Value) (n0 : Nat) (h : Heap) {EL : List (String × Nat)} (x y : Int32) :
    Ct l Z a0 EL tables_1 [] n0 ⟨"java/lang/Math", "min", "(II)I"⟩ jdk_29_method_69_code 2 (some (.int)) ({ frames := 0, cells := 0, slots := 0, locals := 0 } : Room) #[.int x, .int y] h (fun v h' => h' = h ∧ v = some (.int (if y < x then y else x))) := by
  refine Ct.of_bodyP pn3 (L0 := #[.val (.int x), .val (.int y)]) (fun m => by exact ef_of rfl) (fun hEL hw hO => ?_)
  refine G.seg [(0, .iload_n 0, 1), (1, .iload_n 1, 1)] (by decide +kernel) (pc' := 2) (L' := #[.val (.int x), .val (.int y)]) (S' := [.int y, .int x]) rfl ?_
  refine G.icgt (o := (7)) (pc' := 9) (by decide +kernel) (by decide) rfl ?_ ?_
  · intro q1
    refine G.seg [(9, .iload_n 1, 1)] (by decide +kernel) (pc' := 10) (L' := #[.val (.int x), .val (.int y)]) (S' := [.int y]) rfl ?_
    exact G.retI (by decide +kernel) rfl ⟨rfl, by rw [if_pos q1]⟩ (lb rfl) (lb rfl)
  · intro q1
    refine G.seg [(5, .iload_n 0, 1), (6, .goto 4, 3)] (by decide +kernel) (pc' := 10) (L' := #[.val (.int x), .val (.int y)]) (S' := [.int x]) rfl ?_
    exact G.retI (by decide +kernel) rfl ⟨rfl, by rw [if_neg q1]⟩ (lb rfl) (lb rfl)

set_option maxRecDepth 65536 in
set_option maxHeartbeats 4000000 in
theorem aiC (l : Launch) (Z : State) (a0 : Array Value) (n0 : Nat) (h : Heap) {EL : List (String × Nat)} (t : Addr) (ht : n0 ≤ t) (E : Exa Z h t "java/lang/StringBuilder") (Fv : Fld Z h t ASB "value" "[B" .null) (Fc : Fld Z h t ASB "coder" "B" (.int 0)) (Fn : Fld Z h t ASB "count" "I" (.int 0)) (hCS : CS Z) :
    Ct l Z a0 EL tables_1 [] n0 ⟨"java/lang/AbstractStringBuilder", "<init>", "(I)V"⟩ jdk_68_method_2_code 2 (none) ({ frames := 1, cells := 1, slots := 16, locals := 12 } : Room) #[.ref t, .int (16 : Int32)] h (fun v h' => v = none ∧ ∃ (b : Addr) (kb : ClassId), Keep h h' [t] ∧ h.size ≤ b ∧ n0 ≤ b ∧ SBs Z h' t b kb []) := by
  refine Ct.of_body pn4 (L0 := #[.val (.ref t), .val (.int (16 : Int32))]) (fun m => by exact ef_of rfl) (fun hEL hw hO => ?_)
  refine G.seg [(0, .aload_n 0, 1)] (by decide +kernel) (pc' := 1) (L' := #[.val (.ref t), .val (.int (16 : Int32))]) (S' := [.ref t]) rfl ?_
  refine G.initO (W := 0) (by decide +kernel) (tw 45 rfl) (tw 16 rfl) (tw 17 rfl) rfl (lb rfl) (Nat.le_of_eq rfl) (lb rfl) ?_
  obtain ⟨z, Sz, hz⟩ := hCS
  refine G.getS (by decide +kernel) (tw 46 rfl) Sz ?_
  refine G.ifeq (o := (18)) (pc' := 25) (by decide +kernel) (by decide) rfl (fun q1 => absurd q1 hz) ?_
  intro _
  refine G.seg [(10, .aload_n 0, 1), (11, .iload_n 1, 1)] (by decide +kernel) (pc' := 12) (L' := #[.val (.ref t), .val (.int (16 : Int32))]) (S' := [.int (16 : Int32), .ref t]) rfl ?_
  refine G.newarr (aty := .byte) (ty := .byte) (cap := 16) rfl (by decide +kernel) (tw 19 rfl) (by decide) (lb rfl) (lb rfl) (lb rfl) (lb rfl) ?_
  intro h2 a2 k2 g2 n2 K2 A2
  have ne : a2 ≠ t := fun q => Nat.lt_irrefl _ ((q.symm.trans g2) ▸ E.lt)
  refine G.putF (C := "java/lang/StringBuilder") (by decide +kernel) (tw 47 rfl) (Fv.keep K2 nin0) (E.keep K2) (Or.inl (tw 48 rfl)) (tw 34 rfl) (ty := .array (.byte)) (by decide) rfl rfl ht (Or.inr (by decide)) ?_
  intro h3 W3 K3 F3 E3
  have F3coder := past hw (Or.inl (tw 50 rfl)) (Or.inl (tw 48 rfl)) (by decide) (t := .byte) (by decide) (t' := .array (.byte)) (by decide) W3 (Fc.keep K2 nin0)
  have F3count := past hw (Or.inl (tw 81 rfl)) (Or.inl (tw 48 rfl)) (by decide) (t := .int) (by decide) (t' := .array (.byte)) (by decide) W3 (Fn.keep K2 nin0)
  refine G.seg [(17, .aload_n 0, 1), (18, .iconst 0, 1)] (by decide +kernel) (pc' := 19) (L' := #[.val (.ref t), .val (.int (16 : Int32))]) (S' := [.int (0 : Int32), .ref t]) rfl ?_
  refine G.putF (C := "java/lang/StringBuilder") (by decide +kernel) (tw 49 rfl) F3coder E3 (Or.inl (tw 50 rfl)) (tw 34 rfl) (ty := .byte) (by decide) rfl rfl ht (Or.inr (by decide)) ?_
  intro h4 W4 K4 F4 E4
  have F4value := past hw (Or.inl (tw 48 rfl)) (Or.inl (tw 50 rfl)) (by decide) (t := .array (.byte)) (by decide) (t' := .byte) (by decide) W4 F3
  have F4count := past hw (Or.inl (tw 81 rfl)) (Or.inl (tw 50 rfl)) (by decide) (t := .int) (by decide) (t' := .byte) (by decide) W4 F3count
  refine G.seg [(22, .goto 16, 3)] (by decide +kernel) (pc' := 38) (L' := #[.val (.ref t), .val (.int (16 : Int32))]) (S' := []) rfl ?_
  exact G.retV (by decide +kernel) rfl ⟨rfl, a2, k2, (((Keep.refl h [t]).trans K2 all0).trans K3 (fun x hx => Or.inl hx)).trans K4 (fun x hx => Or.inl hx), Nat.le_of_eq g2.symm, n2, E4, F4value, F4, F4count, lat0, Nat.zero_le _, ((A2.pad (fun i => (pad_rep [] (.int 0) 16 i).symm)).keep K3 (ninS ne nin0)).keep K4 (ninS ne nin0)⟩ (lb rfl) (lb rfl)

set_option maxRecDepth 65536 in
set_option maxHeartbeats 4000000 in
theorem biC (l : Launch) (Z : State) (a0 : Array Value) (n0 : Nat) (h : Heap) {EL : List (String × Nat)} (t : Addr) (ht : n0 ≤ t) (E : Exa Z h t "java/lang/StringBuilder") (Fv : Fld Z h t ASB "value" "[B" .null) (Fc : Fld Z h t ASB "coder" "B" (.int 0)) (Fn : Fld Z h t ASB "count" "I" (.int 0)) (hCS : CS Z) :
    Ct l Z a0 EL tables_1 [] n0 ⟨"java/lang/StringBuilder", "<init>", "()V"⟩ jdk_67_method_1_code 1 (none) ({ frames := 2, cells := 1, slots := 16, locals := 30 } : Room) #[.ref t] h (fun v h' => v = none ∧ ∃ (b : Addr) (kb : ClassId), Keep h h' [t] ∧ h.size ≤ b ∧ n0 ≤ b ∧ SBs Z h' t b kb []) := by
  refine Ct.of_body pn5 (L0 := #[.val (.ref t)]) (fun m => by exact ef_of rfl) (fun hEL hw hO => ?_)
  refine G.seg [(0, .aload_n 0, 1), (1, .bipush 16, 2)] (by decide +kernel) (pc' := 3) (L' := #[.val (.ref t)]) (S' := [.int (16 : Int32), .ref t]) rfl ?_
  refine G.special (y := ⟨"java/lang/AbstractStringBuilder", "<init>", "(I)V"⟩) (a := t) (argsL := [.int (16 : Int32)]) (rest := []) (W := 0) rfl (by decide +kernel) (tw 39 rfl) (tw 40 rfl) (tw 44 rfl) (by decide) ((aiC l Z a0 n0 h t ht E Fv Fc Fn hCS).pays (tw 44 rfl) (tw 43 rfl) (lb rfl) (lb rfl)) (lenOf pd4 rfl) rfl (Nat.le_of_eq rfl) rfl (lb rfl) (lb rfl) ?_
  rintro _ h1 ⟨rfl, b, kb, q1, q2, q3, q4⟩
  exact G.retV (by decide +kernel) rfl ⟨rfl, b, kb, q1, q2, q3, q4⟩ (lb rfl) (lb rfl)

set_option maxRecDepth 65536 in
set_option maxHeartbeats 4000000 in
theorem ensC (l : Launch) (Z : State) (a0 : Array Value) (n0 : Nat) (h : Heap) {EL : List (String × Nat)} (t b : Addr) (kb : ClassId) (cs : List Int32) (F : SBs Z h t b kb cs) (n : Nat) (hn : n ≤ 16) :
    Ct l Z a0 EL tables_1 [] n0 ⟨"java/lang/AbstractStringBuilder", "ensureCapacityInternal", "(I)V"⟩ jdk_68_method_9_code 3 (none) ({ frames := 0, cells := 0, slots := 0, locals := 0 } : Room) #[.ref t, .int (Int32.ofNat n)] h (fun r h' => r = none ∧ h' = h) := by
  refine Ct.of_body pn4 (L0 := #[.val (.ref t), .val (.int (Int32.ofNat n)), .unset]) (fun m => by exact ef_of rfl) (fun hEL hw hO => ?_)
  refine G.seg [(0, .aload_n 0, 1)] (by decide +kernel) (pc' := 1) (L' := #[.val (.ref t), .val (.int (Int32.ofNat n)), .unset]) (S' := [.ref t]) rfl ?_
  refine G.getF (by decide +kernel) (tw 47 rfl) F.2.1 ?_
  refine G.arrlen (by decide +kernel) F.2.2.2.2.2.2 ?_
  refine G.seg [(5, .aload_n 0, 1)] (by decide +kernel) (pc' := 6) (L' := #[.val (.ref t), .val (.int (Int32.ofNat n)), .unset]) (S' := [.ref t, .int (16 : Int32)]) rfl ?_
  refine G.getF (by decide +kernel) (tw 49 rfl) F.2.2.1 ?_
  refine G.seg [(9, .ishr, 1), (10, .istore_n 2, 1)] (by decide +kernel) (pc' := 11) (L' := #[.val (.ref t), .val (.int (Int32.ofNat n)), .val (.int ((16 : Int32) >>> ((0 : Int32) &&& 31)))]) (S' := []) rfl ?_
  refine G.seg [(11, .iload_n 1, 1), (12, .iload_n 2, 1), (13, .isub, 1)] (by decide +kernel) (pc' := 14) (L' := #[.val (.ref t), .val (.int (Int32.ofNat n)), .val (.int ((16 : Int32) >>> ((0 : Int32) &&& 31)))]) (S' := [.int ((Int32.ofNat n) - ((16 : Int32) >>> ((0 : Int32) &&& 31)))]) rfl ?_
  refine G.ifle (o := (24)) (pc' := 38) (by decide +kernel) (by decide) rfl ?_ (fun q1 => absurd q1 (ens n hn))
  intro _
  exact G.retV (by decide +kernel) rfl ⟨rfl, rfl⟩ (lb rfl) (lb rfl)

set_option maxRecDepth 65536 in
set_option maxHeartbeats 4000000 in
theorem cdrC (l : Launch) (Z : State) (a0 : Array Value) (n0 : Nat) (h : Heap) {EL : List (String × Nat)} (s : Addr) (ds : List Int32) (A : Str Z h s ds) (hCS : CS Z) :
    Ct l Z a0 EL tables_1 [] n0 ⟨"java/lang/String", "coder", "()B"⟩ jdk_42_method_152_code 1 (some (.byte)) ({ frames := 0, cells := 0, slots := 0, locals := 0 } : Room) #[.ref s] h (fun v h' => h' = h ∧ v = some (.int 0)) := by
  refine Ct.of_body pn0 (L0 := #[.val (.ref s)]) (fun m => by exact ef_of rfl) (fun hEL hw hO => ?_)
  obtain ⟨z, Sz, hz⟩ := hCS
  refine G.getS (by decide +kernel) (tw 79 rfl) Sz ?_
  refine G.ifeq (o := (10)) (pc' := 13) (by decide +kernel) (by decide) rfl (fun q1 => absurd q1 hz) ?_
  intro _
  refine G.seg [(6, .aload_n 0, 1)] (by decide +kernel) (pc' := 7) (L' := #[.val (.ref s)]) (S' := [.ref s]) rfl ?_
  refine G.getF (by decide +kernel) (tw 25 rfl) A.2.1 ?_
  refine G.seg [(10, .goto 4, 3)] (by decide +kernel) (pc' := 14) (L' := #[.val (.ref s)]) (S' := [.int (0 : Int32)]) rfl ?_
  exact G.retN (by decide +kernel) rfl (Or.inr (Or.inl rfl)) rfl ⟨rfl, rfl⟩ (lb rfl) (lb rfl)

set_option maxRecDepth 65536 in
set_option maxHeartbeats 4000000 in
theorem infC (l : Launch) (Z : State) (a0 : Array Value) (n0 : Nat) (h : Heap) {EL : List (String × Nat)} (t b : Addr) (kb : ClassId) (cs : List Int32) (F : SBs Z h t b kb cs)(s : Addr) (ds : List Int32) (A : Str Z h s ds) (hCS : CS Z) :
    Ct l Z a0 EL tables_1 [] n0 ⟨"java/lang/AbstractStringBuilder", "inflateIfNeededFor", "(Ljava/lang/String;)V"⟩ jdk_68_method_71_code 2 (none) ({ frames := 1, cells := 0, slots := 0, locals := 16 } : Room) #[.ref t, .ref s] h (fun r h' => r = none ∧ h' = h) := by
  refine Ct.of_body pn4 (L0 := #[.val (.ref t), .val (.ref s)]) (fun m => by exact ef_of rfl) (fun hEL hw hO => ?_)
  obtain ⟨z, Sz, hz⟩ := id hCS
  refine G.getS (by decide +kernel) (tw 46 rfl) Sz ?_
  refine G.ifeq (o := (18)) (pc' := 21) (by decide +kernel) (by decide) rfl (fun q1 => absurd q1 hz) ?_
  intro _
  refine G.seg [(6, .aload_n 0, 1)] (by decide +kernel) (pc' := 7) (L' := #[.val (.ref t), .val (.ref s)]) (S' := [.ref t]) rfl ?_
  refine G.getF (by decide +kernel) (tw 49 rfl) F.2.2.1 ?_
  refine G.seg [(10, .aload_n 1, 1)] (by decide +kernel) (pc' := 11) (L' := #[.val (.ref t), .val (.ref s)]) (S' := [.ref s, .int (0 : Int32)]) rfl ?_
  refine G.virtual (y := ⟨"java/lang/String", "coder", "()B"⟩) (C := "java/lang/String") (a := s) (argsL := []) (rest := [.int (0 : Int32)]) (W := 1) (by decide +kernel) (tw 97 rfl) (tw 75 rfl) (tw 77 rfl) (tw 76 rfl) (by decide) A.1 ((cdrC l Z a0 n0 h s ds A hCS).pays (tw 78 rfl) (tw 6 rfl) (lb rfl) (lb rfl)) (lenOf pd5 rfl) rfl (Nat.le_of_eq rfl) rfl (lb rfl) (lb rfl) ?_
  rintro _ h2 ⟨rfl, rfl⟩
  refine G.iceq (o := (7)) (pc' := 21) (by decide +kernel) (by decide) rfl ?_ (fun q3 => absurd rfl q3)
  intro _
  exact G.retV (by decide +kernel) rfl ⟨rfl, rfl⟩ (lb rfl) (lb rfl)

set_option maxRecDepth 65536 in
set_option maxHeartbeats 4000000 in
theorem gbyC (l : Launch) (Z : State) (a0 : Array Value) (n0 : Nat) (h : Heap) (b : Addr) (kb : ClassId) (cs : List Int32) (D : Arv Z h b kb .byte 16 (bys cs) (.int 0)) (nb : n0 ≤ b) (s : Addr) (ds : List Int32) (A : Str Z h s ds) (hCS : CS Z) (h16 : cs.length + ds.length ≤ 16) :
    Ct l Z a0 [] tables_1 [] n0 ⟨"java/lang/String", "getBytes", "([BIB)V"⟩ jdk_42_method_147_code 4 (none) ({ frames := 1, cells := 0, slots := 0, locals := 24 } : Room) #[.ref s, .ref b, .int (Int32.ofNat cs.length), .int (0 : Int32)] h (fun r h' => r = none ∧ Keep h h' [b] ∧ Arv Z h' b kb .byte 16 (bys (cs ++ ds)) (.int 0)) := by
  refine Ct.of_body pn0 (L0 := #[.val (.ref s), .val (.ref b), .val (.int (Int32.ofNat cs.length)), .val (.int (0 : Int32))]) (fun m => by exact ef_of rfl) (fun hEL hw hO => ?_)
  obtain ⟨-, -, hl, hle, vb, kv, V, B⟩ := id A
  refine G.seg [(0, .aload_n 0, 1)] (by decide +kernel) (pc' := 1) (L' := #[.val (.ref s), .val (.ref b), .val (.int (Int32.ofNat cs.length)), .val (.int (0 : Int32))]) (S' := [.ref s]) rfl ?_
  refine G.virtual (y := ⟨"java/lang/String", "coder", "()B"⟩) (C := "java/lang/String") (a := s) (argsL := []) (rest := []) (W := 0) (by decide +kernel) (tw 74 rfl) (tw 75 rfl) (tw 77 rfl) (tw 76 rfl) (by decide) A.1 ((cdrC l Z a0 n0 h s ds A hCS).pays (tw 78 rfl) (tw 6 rfl) (lb rfl) (lb rfl)) (lenOf pd5 rfl) rfl (Nat.le_of_eq rfl) rfl (lb rfl) (lb rfl) ?_
  rintro _ h1 ⟨rfl, rfl⟩
  refine G.seg [(4, .iload_n 3, 1)] (by decide +kernel) (pc' := 5) (L' := #[.val (.ref s), .val (.ref b), .val (.int (Int32.ofNat cs.length)), .val (.int (0 : Int32))]) (S' := [.int (0 : Int32), .int (0 : Int32)]) rfl ?_
  refine G.icne (o := (23)) (pc' := 28) (by decide +kernel) (by decide) rfl (fun q2 => absurd rfl q2) ?_
  intro _
  refine G.seg [(8, .aload_n 0, 1)] (by decide +kernel) (pc' := 9) (L' := #[.val (.ref s), .val (.ref b), .val (.int (Int32.ofNat cs.length)), .val (.int (0 : Int32))]) (S' := [.ref s]) rfl ?_
  refine G.getF (by decide +kernel) (tw 24 rfl) V ?_
  refine G.seg [(12, .iconst 0, 1), (13, .aload_n 1, 1), (14, .iload_n 2, 1), (15, .iload_n 3, 1), (16, .ishl, 1)] (by decide +kernel) (pc' := 17) (L' := #[.val (.ref s), .val (.ref b), .val (.int (Int32.ofNat cs.length)), .val (.int (0 : Int32))]) (S' := [.int ((Int32.ofNat cs.length) <<< ((0 : Int32) &&& 31)), .ref b, .int (0 : Int32), .ref vb]) rfl ?_
  rw [shl0 _ (by omega)]
  refine G.seg [(17, .aload_n 0, 1)] (by decide +kernel) (pc' := 18) (L' := #[.val (.ref s), .val (.ref b), .val (.int (Int32.ofNat cs.length)), .val (.int (0 : Int32))]) (S' := [.ref s, .int (Int32.ofNat cs.length), .ref b, .int (0 : Int32), .ref vb]) rfl ?_
  refine G.getF (by decide +kernel) (tw 24 rfl) V ?_
  refine G.arrlen (by decide +kernel) B ?_
  refine G.arrcopy (idx := 212) (o := 0) (q := cs.length) (n := ds.length) (ds' := bys (cs ++ ds)) rfl (by decide +kernel) (tw 103 rfl) (tw 106 rfl) (tw 104 rfl) (tw 105 rfl) B D nb rfl rfl rfl (by decide) (by omega) (by omega) (by rw [clampk hle]; omega) (show cs.length + ds.length ≤ 16 from h16) (fun j _ => app_bytes cs ds j) (lb rfl) (lb rfl) rfl ?_
  intro h3 K3 A3
  refine G.seg [(25, .goto 18, 3)] (by decide +kernel) (pc' := 43) (L' := #[.val (.ref s), .val (.ref b), .val (.int (Int32.ofNat cs.length)), .val (.int (0 : Int32))]) (S' := []) rfl ?_
  exact G.retV (by decide +kernel) rfl ⟨rfl, K3, A3⟩ (lb rfl) (lb rfl)

set_option maxRecDepth 65536 in
set_option maxHeartbeats 4000000 in
theorem psaC (l : Launch) (Z : State) (a0 : Array Value) (n0 : Nat) (h : Heap) (t b : Addr) (kb : ClassId) (cs : List Int32) (F : SBs Z h t b kb cs) (nb : n0 ≤ b) (s : Addr) (ds : List Int32) (A : Str Z h s ds) (hCS : CS Z) (h16 : cs.length + ds.length ≤ 16) :
    Ct l Z a0 [] tables_1 [] n0 ⟨"java/lang/AbstractStringBuilder", "putStringAt", "(ILjava/lang/String;)V"⟩ jdk_68_method_73_code 3 (none) ({ frames := 2, cells := 0, slots := 0, locals := 50 } : Room) #[.ref t, .int (Int32.ofNat cs.length), .ref s] h (fun r h' => r = none ∧ Keep h h' [b] ∧ Arv Z h' b kb .byte 16 (bys (cs ++ ds)) (.int 0)) := by
  refine Ct.of_body pn4 (L0 := #[.val (.ref t), .val (.int (Int32.ofNat cs.length)), .val (.ref s)]) (fun m => by exact ef_of rfl) (fun hEL hw hO => ?_)
  refine G.seg [(0, .aload_n 0, 1), (1, .aload_n 2, 1)] (by decide +kernel) (pc' := 2) (L' := #[.val (.ref t), .val (.int (Int32.ofNat cs.length)), .val (.ref s)]) (S' := [.ref s, .ref t]) rfl ?_
  refine G.virtualP (y := ⟨"java/lang/AbstractStringBuilder", "inflateIfNeededFor", "(Ljava/lang/String;)V"⟩) (C := "java/lang/StringBuilder") (a := t) (argsL := [.ref s]) (rest := []) (W := 0) (by decide +kernel) (tw 92 rfl) (tw 96 rfl) (tw 95 rfl) (tw 93 rfl) (by decide) F.1 ((infC l Z a0 n0 h t b kb cs F s ds A hCS).pays (tw 96 rfl) (tw 43 rfl) (lb rfl) (lb rfl)) (lenOf pd6 rfl) rfl (Nat.le_of_eq rfl) rfl (lb rfl) (lb rfl) ?_
  rintro _ h1 ⟨rfl, rfl⟩
  refine G.seg [(5, .aload_n 2, 1), (6, .aload_n 0, 1)] (by decide +kernel) (pc' := 7) (L' := #[.val (.ref t), .val (.int (Int32.ofNat cs.length)), .val (.ref s)]) (S' := [.ref t, .ref s]) rfl ?_
  refine G.getF (by decide +kernel) (tw 47 rfl) F.2.1 ?_
  refine G.seg [(10, .iload_n 1, 1), (11, .aload_n 0, 1)] (by decide +kernel) (pc' := 12) (L' := #[.val (.ref t), .val (.int (Int32.ofNat cs.length)), .val (.ref s)]) (S' := [.ref t, .int (Int32.ofNat cs.length), .ref b, .ref s]) rfl ?_
  refine G.getF (by decide +kernel) (tw 49 rfl) F.2.2.1 ?_
  refine G.virtual (y := ⟨"java/lang/String", "getBytes", "([BIB)V"⟩) (C := "java/lang/String") (a := s) (argsL := [.ref b, .int (Int32.ofNat cs.length), .int (0 : Int32)]) (rest := []) (W := 0) (by decide +kernel) (tw 98 rfl) (tw 99 rfl) (tw 101 rfl) (tw 100 rfl) (by decide) A.1 ((gbyC l Z a0 n0 h1 b kb cs F.2.2.2.2.2.2 nb s ds A hCS h16).pays (tw 102 rfl) (tw 6 rfl) (lb rfl) (lb rfl)) (lenOf pd7 rfl) rfl (Nat.le_of_eq rfl) rfl (lb rfl) (lb rfl) ?_
  rintro _ h2 ⟨rfl, K2, A2⟩
  exact G.retV (by decide +kernel) rfl ⟨rfl, K2, A2⟩ (lb rfl) (lb rfl)

set_option maxRecDepth 65536 in
set_option maxHeartbeats 4000000 in
theorem aapC (l : Launch) (Z : State) (a0 : Array Value) (n0 : Nat) (h : Heap) (t b : Addr) (kb : ClassId) (cs : List Int32) (F : SBs Z h t b kb cs) (nt : n0 ≤ t) (nb : n0 ≤ b) (s : Addr) (ds : List Int32) (A : Str Z h s ds) (hCS : CS Z) (h16 : cs.length + ds.length ≤ 16) :
    Ct l Z a0 [] tables_1 [] n0 ⟨"java/lang/AbstractStringBuilder", "append", "(Ljava/lang/String;)Ljava/lang/AbstractStringBuilder;"⟩ jdk_68_method_22_code 3 (some (.object "java/lang/AbstractStringBuilder")) ({ frames := 3, cells := 0, slots := 0, locals := 80 } : Room) #[.ref t, .ref s] h (fun v h' => v = some (.ref t) ∧ Keep h h' [t, b] ∧ SBs Z h' t b kb (cs ++ ds)) := by
  refine Ct.of_body pn4 (L0 := #[.val (.ref t), .val (.ref s), .unset]) (fun m => by exact ef_of rfl) (fun hEL hw hO => ?_)
  have net : t ≠ b := Exa.neArv F.1 F.2.2.2.2.2.2 (hw _ (tw 34 rfl))
  refine G.seg [(0, .aload_n 1, 1)] (by decide +kernel) (pc' := 1) (L' := #[.val (.ref t), .val (.ref s), .unset]) (S' := [.ref s]) rfl ?_
  refine G.nonnulljmp (o := (8)) (pc' := 9) rfl (by decide +kernel) (by decide) rfl ?_ (fun q1 => absurd q1 (fun z => nomatch z))
  intro _
  refine G.seg [(9, .aload_n 1, 1)] (by decide +kernel) (pc' := 10) (L' := #[.val (.ref t), .val (.ref s), .unset]) (S' := [.ref s]) rfl ?_
  refine G.virtual (y := ⟨"java/lang/String", "length", "()I"⟩) (C := "java/lang/String") (a := s) (argsL := []) (rest := []) (W := 0) (by decide +kernel) (tw 69 rfl) (tw 70 rfl) (tw 72 rfl) (tw 71 rfl) (by decide) A.1 (lenB swL (tw 5 rfl) A hCS (lb rfl) (lb rfl)) (lenOf pd8 rfl) rfl (Nat.le_of_eq rfl) rfl (lb rfl) (lb rfl) ?_
  rintro _ h2 ⟨rfl, rfl⟩
  refine G.seg [(13, .istore_n 2, 1)] (by decide +kernel) (pc' := 14) (L' := #[.val (.ref t), .val (.ref s), .val (.int (Int32.ofNat ds.length))]) (S' := []) rfl ?_
  refine G.seg [(14, .aload_n 0, 1), (15, .aload_n 0, 1)] (by decide +kernel) (pc' := 16) (L' := #[.val (.ref t), .val (.ref s), .val (.int (Int32.ofNat ds.length))]) (S' := [.ref t, .ref t]) rfl ?_
  refine G.getF (by decide +kernel) (tw 80 rfl) F.2.2.2.1 ?_
  refine G.seg [(19, .iload_n 2, 1), (20, .iadd, 1)] (by decide +kernel) (pc' := 21) (L' := #[.val (.ref t), .val (.ref s), .val (.int (Int32.ofNat ds.length))]) (S' := [.int ((Int32.ofNat cs.length) + (Int32.ofNat ds.length)), .ref t]) rfl ?_
  rw [addN]
  refine G.virtualP (y := ⟨"java/lang/AbstractStringBuilder", "ensureCapacityInternal", "(I)V"⟩) (C := "java/lang/StringBuilder") (a := t) (argsL := [.int (Int32.ofNat (cs.length + ds.length))]) (rest := []) (W := 0) (by decide +kernel) (tw 82 rfl) (tw 86 rfl) (tw 85 rfl) (tw 83 rfl) (by decide) F.1 ((ensC l Z a0 n0 h2 t b kb cs F (cs.length + ds.length) h16).pays (tw 86 rfl) (tw 43 rfl) (lb rfl) (lb rfl)) (lenOf pd4 rfl) rfl (Nat.le_of_eq rfl) rfl (lb rfl) (lb rfl) ?_
  rintro _ h3 ⟨rfl, rfl⟩
  refine G.seg [(24, .aload_n 0, 1), (25, .aload_n 0, 1)] (by decide +kernel) (pc' := 26) (L' := #[.val (.ref t), .val (.ref s), .val (.int (Int32.ofNat ds.length))]) (S' := [.ref t, .ref t]) rfl ?_
  refine G.getF (by decide +kernel) (tw 80 rfl) F.2.2.2.1 ?_
  refine G.seg [(29, .aload_n 1, 1)] (by decide +kernel) (pc' := 30) (L' := #[.val (.ref t), .val (.ref s), .val (.int (Int32.ofNat ds.length))]) (S' := [.ref s, .int (Int32.ofNat cs.length), .ref t]) rfl ?_
  refine G.virtualP (y := ⟨"java/lang/AbstractStringBuilder", "putStringAt", "(ILjava/lang/String;)V"⟩) (C := "java/lang/StringBuilder") (a := t) (argsL := [.int (Int32.ofNat cs.length), .ref s]) (rest := []) (W := 0) (by decide +kernel) (tw 87 rfl) (tw 91 rfl) (tw 90 rfl) (tw 88 rfl) (by decide) F.1 ((psaC l Z a0 n0 h3 t b kb cs F nb s ds A hCS h16).pays (tw 91 rfl) (tw 43 rfl) (lb rfl) (lb rfl)) (lenOf pd9 rfl) rfl (Nat.le_of_eq rfl) rfl (lb rfl) (lb rfl) ?_
  rintro _ h4 ⟨rfl, K4, A4⟩
  have Gvalue := F.2.1.keep K4 (ninS net nin0)
  have Gcoder := F.2.2.1.keep K4 (ninS net nin0)
  have Gcount := F.2.2.2.1.keep K4 (ninS net nin0)
  refine G.seg [(33, .aload_n 0, 1), (34, .dup, 1)] (by decide +kernel) (pc' := 35) (L' := #[.val (.ref t), .val (.ref s), .val (.int (Int32.ofNat ds.length))]) (S' := [.ref t, .ref t]) rfl ?_
  refine G.getF (by decide +kernel) (tw 80 rfl) Gcount ?_
  refine G.seg [(38, .iload_n 2, 1), (39, .iadd, 1)] (by decide +kernel) (pc' := 40) (L' := #[.val (.ref t), .val (.ref s), .val (.int (Int32.ofNat ds.length))]) (S' := [.int ((Int32.ofNat cs.length) + (Int32.ofNat ds.length)), .ref t]) rfl ?_
  rw [addN]
  refine G.putF (C := "java/lang/StringBuilder") (by decide +kernel) (tw 80 rfl) Gcount (F.1.keep K4) (Or.inl (tw 81 rfl)) (tw 34 rfl) (ty := .int) (by decide) rfl rfl nt (Or.inr (by decide)) ?_
  intro h5 W5 K5 F5 E5
  have F5value := past hw (Or.inl (tw 48 rfl)) (Or.inl (tw 81 rfl)) (by decide) (t := .array (.byte)) (by decide) (t' := .int) (by decide) W5 Gvalue
  have F5coder := past hw (Or.inl (tw 50 rfl)) (Or.inl (tw 81 rfl)) (by decide) (t := .byte) (by decide) (t' := .int) (by decide) W5 Gcoder
  refine G.seg [(43, .aload_n 0, 1)] (by decide +kernel) (pc' := 44) (L' := #[.val (.ref t), .val (.ref s), .val (.int (Int32.ofNat ds.length))]) (S' := [.ref t]) rfl ?_
  exact G.retA (by decide +kernel) rfl rfl rfl rfl ⟨rfl, (Keep.trans ((Keep.refl _ [t, b]).trans K4 (allS (Or.inl (by simp)) all0)) K5 (allS (Or.inl (by simp)) all0)), E5, F5value, F5coder, (by rw [List.length_append]; exact F5), lat_app F.2.2.2.2.1 A.2.2.1, (by rw [List.length_append]; exact h16), A4.keep K5 (ninS (Ne.symm net) nin0)⟩ (lb rfl) (lb rfl)

set_option maxRecDepth 65536 in
set_option maxHeartbeats 4000000 in
theorem bapC (l : Launch) (Z : State) (a0 : Array Value) (n0 : Nat) (h : Heap) (t b : Addr) (kb : ClassId) (cs : List Int32) (F : SBs Z h t b kb cs) (nt : n0 ≤ t) (nb : n0 ≤ b) (s : Addr) (ds : List Int32) (A : Str Z h s ds) (hCS : CS Z) (h16 : cs.length + ds.length ≤ 16) :
    Ct l Z a0 [] tables_1 [] n0 ⟨"java/lang/StringBuilder", "append", "(Ljava/lang/String;)Ljava/lang/StringBuilder;"⟩ jdk_67_method_7_code 2 (some (.object "java/lang/StringBuilder")) ({ frames := 4, cells := 0, slots := 0, locals := 100 } : Room) #[.ref t, .ref s] h (fun v h' => v = some (.ref t) ∧ Keep h h' [t, b] ∧ SBs Z h' t b kb (cs ++ ds)) := by
  refine Ct.of_body pn5 (L0 := #[.val (.ref t), .val (.ref s)]) (fun m => by exact ef_of rfl) (fun hEL hw hO => ?_)
  refine G.seg [(0, .aload_n 0, 1), (1, .aload_n 1, 1)] (by decide +kernel) (pc' := 2) (L' := #[.val (.ref t), .val (.ref s)]) (S' := [.ref s, .ref t]) rfl ?_
  refine G.super (y := ⟨"java/lang/AbstractStringBuilder", "append", "(Ljava/lang/String;)Ljava/lang/AbstractStringBuilder;"⟩) (y1 := ⟨"java/lang/AbstractStringBuilder", "isLatin1", "()Z"⟩) (C := "java/lang/StringBuilder") (a := t) (argsL := [.ref s]) (rest := []) (W := 0) (by decide) (by decide +kernel) (tw 64 rfl) (tw 67 rfl) (tw 65 rfl) (tw 66 rfl) (tw 119 rfl) rfl (tw 68 rfl) (by decide) (Ins.self F.1) ((aapC l Z a0 n0 h t b kb cs F nt nb s ds A hCS h16).pays (tw 68 rfl) (tw 43 rfl) (lb rfl) (lb rfl)) (lenOf pd10 rfl) rfl (Nat.le_of_eq rfl) rfl (lb rfl) (lb rfl) ?_
  rintro _ h1 ⟨rfl, K1, A1⟩
  refine G.seg [(5, .pop, 1), (6, .aload_n 0, 1)] (by decide +kernel) (pc' := 7) (L' := #[.val (.ref t), .val (.ref s)]) (S' := [.ref t]) rfl ?_
  exact G.retA (by decide +kernel) rfl rfl rfl rfl ⟨rfl, K1, A1⟩ (lb rfl) (lb rfl)

set_option maxRecDepth 65536 in
set_option maxHeartbeats 4000000 in
theorem ailC (l : Launch) (Z : State) (a0 : Array Value) (n0 : Nat) (h : Heap) {EL : List (String × Nat)} (t b : Addr) (kb : ClassId) (cs : List Int32) (F : SBs Z h t b kb cs) (hCS : CS Z) :
    Ct l Z a0 EL tables_1 [] n0 ⟨"java/lang/AbstractStringBuilder", "isLatin1", "()Z"⟩ jdk_68_method_68_code 1 (some (.boolean)) ({ frames := 0, cells := 0, slots := 0, locals := 0 } : Room) #[.ref t] h (fun v h' => h' = h ∧ v = some (.int 1)) := by
  refine Ct.of_body pn4 (L0 := #[.val (.ref t)]) (fun m => by exact ef_of rfl) (fun hEL hw hO => ?_)
  obtain ⟨z, Sz, hz⟩ := hCS
  refine G.getS (by decide +kernel) (tw 46 rfl) Sz ?_
  refine G.ifeq (o := (14)) (pc' := 17) (by decide +kernel) (by decide) rfl (fun q1 => absurd q1 hz) ?_
  intro _
  refine G.seg [(6, .aload_n 0, 1)] (by decide +kernel) (pc' := 7) (L' := #[.val (.ref t)]) (S' := [.ref t]) rfl ?_
  refine G.getF (by decide +kernel) (tw 49 rfl) F.2.2.1 ?_
  refine G.ifne (o := (7)) (pc' := 17) (by decide +kernel) (by decide) rfl (fun q2 => absurd rfl q2) ?_
  intro _
  refine G.seg [(13, .iconst 1, 1), (14, .goto 4, 3)] (by decide +kernel) (pc' := 18) (L' := #[.val (.ref t)]) (S' := [.int (1 : Int32)]) rfl ?_
  exact G.retN (by decide +kernel) rfl (Or.inl rfl) rfl ⟨rfl, rfl⟩ (lb rfl) (lb rfl)

set_option maxRecDepth 65536 in
set_option maxHeartbeats 4000000 in
theorem cecC (l : Launch) (Z : State) (a0 : Array Value) (n0 : Nat) (h : Heap) {EL : List (String × Nat)} (c : Int32) (hc : b8 c) :
    Ct l Z a0 EL tables_1 [] n0 ⟨"java/lang/StringLatin1", "canEncode", "(C)Z"⟩ jdk_43_method_3_code 1 (some (.boolean)) ({ frames := 0, cells := 0, slots := 0, locals := 0 } : Room) #[.int c] h (fun v h' => h' = h ∧ v = some (.int 1)) := by
  refine Ct.of_body pn2 (L0 := #[.val (.int c)]) (fun m => by exact ef_of rfl) (fun hEL hw hO => ?_)
  refine G.seg [(0, .iload_n 0, 1), (1, .sipush 255, 3)] (by decide +kernel) (pc' := 4) (L' := #[.val (.int c)]) (S' := [.int (255 : Int32), .int c]) rfl ?_
  refine G.icgt (o := (7)) (pc' := 11) (by decide +kernel) (by decide) rfl (fun q1 => absurd q1 hc.2) ?_
  intro _
  refine G.seg [(7, .iconst 1, 1), (8, .goto 4, 3)] (by decide +kernel) (pc' := 12) (L' := #[.val (.int c)]) (S' := [.int (1 : Int32)]) rfl ?_
  exact G.retN (by decide +kernel) rfl (Or.inl rfl) rfl ⟨rfl, rfl⟩ (lb rfl) (lb rfl)

set_option maxRecDepth 65536 in
set_option maxHeartbeats 4000000 in
theorem aacC (l : Launch) (Z : State) (a0 : Array Value) (n0 : Nat) (h : Heap) (t b : Addr) (kb : ClassId) (cs : List Int32) (F : SBs Z h t b kb cs) (nt : n0 ≤ t) (nb : n0 ≤ b) (c : Int32) (hc : b8 c) (hCS : CS Z) (hlt : cs.length < 16) :
    Ct l Z a0 [] tables_1 [] n0 ⟨"java/lang/AbstractStringBuilder", "append", "(C)Ljava/lang/AbstractStringBuilder;"⟩ jdk_68_method_31_code 2 (some (.object "java/lang/AbstractStringBuilder")) ({ frames := 1, cells := 0, slots := 0, locals := 20 } : Room) #[.ref t, .int c] h (fun v h' => v = some (.ref t) ∧ Keep h h' [t, b] ∧ SBs Z h' t b kb (cs ++ [c])) := by
  refine Ct.of_body pn4 (L0 := #[.val (.ref t), .val (.int c)]) (fun m => by exact ef_of rfl) (fun hEL hw hO => ?_)
  have net : t ≠ b := Exa.neArv F.1 F.2.2.2.2.2.2 (hw _ (tw 34 rfl))
  have h15 : cs.length < 16 := hlt
  refine G.seg [(0, .aload_n 0, 1), (1, .aload_n 0, 1)] (by decide +kernel) (pc' := 2) (L' := #[.val (.ref t), .val (.int c)]) (S' := [.ref t, .ref t]) rfl ?_
  refine G.getF (by decide +kernel) (tw 80 rfl) F.2.2.2.1 ?_
  refine G.seg [(5, .iconst 1, 1), (6, .iadd, 1)] (by decide +kernel) (pc' := 7) (L' := #[.val (.ref t), .val (.int c)]) (S' := [.int ((Int32.ofNat cs.length) + (1 : Int32)), .ref t]) rfl ?_
  rw [show Int32.ofNat cs.length + (1 : Int32) = Int32.ofNat (cs.length + 1) from addN cs.length 1]
  refine G.virtualP (y := ⟨"java/lang/AbstractStringBuilder", "ensureCapacityInternal", "(I)V"⟩) (C := "java/lang/StringBuilder") (a := t) (argsL := [.int (Int32.ofNat (cs.length + 1))]) (rest := []) (W := 0) (by decide +kernel) (tw 82 rfl) (tw 86 rfl) (tw 85 rfl) (tw 83 rfl) (by decide) F.1 ((ensC l Z a0 n0 h t b kb cs F (cs.length + 1) hlt).pays (tw 86 rfl) (tw 43 rfl) (lb rfl) (lb rfl)) (lenOf pd4 rfl) rfl (Nat.le_of_eq rfl) rfl (lb rfl) (lb rfl) ?_
  rintro _ h1 ⟨rfl, rfl⟩
  refine G.seg [(10, .aload_n 0, 1)] (by decide +kernel) (pc' := 11) (L' := #[.val (.ref t), .val (.int c)]) (S' := [.ref t]) rfl ?_
  refine G.virtual (y := ⟨"java/lang/AbstractStringBuilder", "isLatin1", "()Z"⟩) (C := "java/lang/StringBuilder") (a := t) (argsL := []) (rest := []) (W := 0) (by decide +kernel) (tw 116 rfl) (tw 117 rfl) (tw 119 rfl) (tw 118 rfl) (by decide) F.1 ((ailC l Z a0 n0 h1 t b kb cs F hCS).pays (tw 120 rfl) (tw 43 rfl) (lb rfl) (lb rfl)) (lenOf pd2 rfl) rfl (Nat.le_of_eq rfl) rfl (lb rfl) (lb rfl) ?_
  rintro _ h2 ⟨rfl, rfl⟩
  refine G.ifeq (o := (31)) (pc' := 45) (by decide +kernel) (by decide) rfl (fun q3 => absurd q3 (by decide)) ?_
  intro _
  refine G.seg [(17, .iload_n 1, 1)] (by decide +kernel) (pc' := 18) (L' := #[.val (.ref t), .val (.int c)]) (S' := [.int c]) rfl ?_
  refine G.static (y := ⟨"java/lang/StringLatin1", "canEncode", "(C)Z"⟩) (argsL := [.int c]) (rest := []) (W := 0) (by decide +kernel) (tw 121 rfl) (tw 122 rfl) (tw 123 rfl) (tw 124 rfl) (by decide) ((cecC l Z a0 n0 h2 c hc).pays (tw 124 rfl) (tw 123 rfl) (lb rfl) (lb rfl)) (lenOf pd11 rfl) rfl (Nat.le_of_eq rfl) rfl (lb rfl) (lb rfl) ?_
  rintro _ h4 ⟨rfl, rfl⟩
  refine G.ifeq (o := (24)) (pc' := 45) (by decide +kernel) (by decide) rfl (fun q5 => absurd q5 (by decide)) ?_
  intro _
  refine G.seg [(24, .aload_n 0, 1)] (by decide +kernel) (pc' := 25) (L' := #[.val (.ref t), .val (.int c)]) (S' := [.ref t]) rfl ?_
  refine G.getF (by decide +kernel) (tw 47 rfl) F.2.1 ?_
  refine G.seg [(28, .aload_n 0, 1), (29, .dup, 1)] (by decide +kernel) (pc' := 30) (L' := #[.val (.ref t), .val (.int c)]) (S' := [.ref t, .ref t, .ref b]) rfl ?_
  refine G.getF (by decide +kernel) (tw 80 rfl) F.2.2.2.1 ?_
  refine G.seg [(33, .dup_x1, 1), (34, .iconst 1, 1), (35, .iadd, 1)] (by decide +kernel) (pc' := 36) (L' := #[.val (.ref t), .val (.int c)]) (S' := [.int ((Int32.ofNat cs.length) + (1 : Int32)), .ref t, .int (Int32.ofNat cs.length), .ref b]) rfl ?_
  rw [show Int32.ofNat cs.length + (1 : Int32) = Int32.ofNat (cs.length + 1) from addN cs.length 1]
  refine G.putF (C := "java/lang/StringBuilder") (by decide +kernel) (tw 80 rfl) F.2.2.2.1 F.1 (Or.inl (tw 81 rfl)) (tw 34 rfl) (ty := .int) (by decide) rfl rfl nt (Or.inr (by decide)) ?_
  intro h6 W6 K6 F6 E6
  have F6value := past hw (Or.inl (tw 48 rfl)) (Or.inl (tw 81 rfl)) (by decide) (t := .array (.byte)) (by decide) (t' := .int) (by decide) W6 F.2.1
  have F6coder := past hw (Or.inl (tw 50 rfl)) (Or.inl (tw 81 rfl)) (by decide) (t := .byte) (by decide) (t' := .int) (by decide) W6 F.2.2.1
  refine G.seg [(39, .iload_n 1, 1), (40, .i2b, 1)] (by decide +kernel) (pc' := 41) (L' := #[.val (.ref t), .val (.int c)]) (S' := [.int c.toInt8.toInt32, .int (Int32.ofNat cs.length), .ref b]) rfl ?_
  have B1 := (F.2.2.2.2.2.2.pad (fun i => bys_pad cs 1 i)).keep K6 (ninS (Ne.symm net) nin0)
  refine G.bastore (i := cs.length) rfl (by decide +kernel) B1 nb ⟨(nlt (n := 16) (by decide) hlt).1, (nlt (n := 16) (by decide) hlt).2⟩ (clampk (by omega)) (by simp) (nar_byte8 c) ?_
  intro h7 K7 A7
  refine G.seg [(42, .goto 33, 3), (75, .aload_n 0, 1)] (by decide +kernel) (pc' := 76) (L' := #[.val (.ref t), .val (.int c)]) (S' := [.ref t]) rfl ?_
  have B2 := (bys_set cs c) ▸ A7
  exact G.retA (by decide +kernel) rfl rfl rfl rfl ⟨rfl, (Keep.trans ((Keep.refl _ [t, b]).trans K6 (allS (Or.inl (by simp)) all0)) K7 (allS (Or.inl (by simp)) all0)), E6.keep K7, F6value.keep K7 (ninS net nin0), F6coder.keep K7 (ninS net nin0), (by rw [List.length_append]; exact F6.keep K7 (ninS net nin0)), lat_app F.2.2.2.2.1 (latS hc lat0), (by rw [List.length_append]; exact hlt), B2⟩ (lb rfl) (lb rfl)

set_option maxRecDepth 65536 in
set_option maxHeartbeats 4000000 in
theorem bacC (l : Launch) (Z : State) (a0 : Array Value) (n0 : Nat) (h : Heap) (t b : Addr) (kb : ClassId) (cs : List Int32) (F : SBs Z h t b kb cs) (nt : n0 ≤ t) (nb : n0 ≤ b) (c : Int32) (hc : b8 c) (hCS : CS Z) (hlt : cs.length < 16) :
    Ct l Z a0 [] tables_1 [] n0 ⟨"java/lang/StringBuilder", "append", "(C)Ljava/lang/StringBuilder;"⟩ jdk_67_method_14_code 2 (some (.object "java/lang/StringBuilder")) ({ frames := 2, cells := 0, slots := 0, locals := 40 } : Room) #[.ref t, .int c] h (fun v h' => v = some (.ref t) ∧ Keep h h' [t, b] ∧ SBs Z h' t b kb (cs ++ [c])) := by
  refine Ct.of_body pn5 (L0 := #[.val (.ref t), .val (.int c)]) (fun m => by exact ef_of rfl) (fun hEL hw hO => ?_)
  refine G.seg [(0, .aload_n 0, 1), (1, .iload_n 1, 1)] (by decide +kernel) (pc' := 2) (L' := #[.val (.ref t), .val (.int c)]) (S' := [.int c, .ref t]) rfl ?_
  refine G.super (y := ⟨"java/lang/AbstractStringBuilder", "append", "(C)Ljava/lang/AbstractStringBuilder;"⟩) (y1 := ⟨"java/lang/AbstractStringBuilder", "isLatin1", "()Z"⟩) (C := "java/lang/StringBuilder") (a := t) (argsL := [.int c]) (rest := []) (W := 0) (by decide) (by decide +kernel) (tw 112 rfl) (tw 114 rfl) (tw 113 rfl) (tw 66 rfl) (tw 119 rfl) rfl (tw 115 rfl) (by decide) (Ins.self F.1) ((aacC l Z a0 n0 h t b kb cs F nt nb c hc hCS hlt).pays (tw 115 rfl) (tw 43 rfl) (lb rfl) (lb rfl)) (lenOf pd12 rfl) rfl (Nat.le_of_eq rfl) rfl (lb rfl) (lb rfl) ?_
  rintro _ h1 ⟨rfl, K1, A1⟩
  refine G.seg [(5, .pop, 1), (6, .aload_n 0, 1)] (by decide +kernel) (pc' := 7) (L' := #[.val (.ref t), .val (.int c)]) (S' := [.ref t]) rfl ?_
  exact G.retA (by decide +kernel) rfl rfl rfl rfl ⟨rfl, K1, A1⟩ (lb rfl) (lb rfl)


set_option maxRecDepth 65536 in
set_option maxHeartbeats 4000000 in
theorem cklC (l : Launch) (Z : State) (a0 : Array Value) (n0 : Nat) (h : Heap) {EL : List (String × Nat)} (e : Int32) (he : ¬ e < 0) :
    Ct l Z a0 EL tables_1 [] n0 ⟨"java/util/Arrays", "checkLength", "(II)V"⟩ jdk_65_method_131_code 2 (none) ({ frames := 0, cells := 0, slots := 0, locals := 0 } : Room) #[.int (0 : Int32), .int e] h (fun r h' => r = none ∧ h' = h) := by
  refine Ct.of_body pn6 (L0 := #[.val (.int (0 : Int32)), .val (.int e)]) (fun m => by exact ef_of rfl) (fun hEL hw hO => ?_)
  refine G.seg [(0, .iload_n 1, 1), (1, .iload_n 0, 1)] (by decide +kernel) (pc' := 2) (L' := #[.val (.int (0 : Int32)), .val (.int e)]) (S' := [.int (0 : Int32), .int e]) rfl ?_
  refine G.icge (o := (35)) (pc' := 37) (by decide +kernel) (by decide) rfl ?_ (fun q1 => absurd q1 he)
  intro _
  exact G.retV (by decide +kernel) rfl ⟨rfl, rfl⟩ (lb rfl) (lb rfl)

set_option maxRecDepth 65536 in
set_option maxHeartbeats 4000000 in
theorem cobC (l : Launch) (Z : State) (a0 : Array Value) (n0 : Nat) (h : Heap) (b : Addr) (kb : ClassId) (cs : List Int32) (m : Nat) (hle : cs.length ≤ 4000) (hm0 : 0 < m) (hm1 : m < cs.length) (hm4 : m ≤ 8) (A : Arv Z h b kb .byte (Int32.ofNat cs.length) (bys cs) (.int 0)) :
    Ct l Z a0 [] tables_1 [] n0 ⟨"java/util/Arrays", "copyOfRangeByte", "([BII)[B"⟩ jdk_65_method_133_code 5 (some (.array (.byte))) ({ frames := 1, cells := 1, slots := 8, locals := 20 } : Room) #[.ref b, .int (0 : Int32), .int (Int32.ofNat m)] h (fun v h' => ∃ (r : Addr) (kr : ClassId), v = some (.ref r) ∧ Keep h h' [] ∧ Arv Z h' r kr .byte (Int32.ofNat (cs.take m).length) (bys (cs.take m)) (.int 0)) := by
  refine Ct.of_body pn6 (L0 := #[.val (.ref b), .val (.int (0 : Int32)), .val (.int (Int32.ofNat m)), .unset, .unset]) (fun m => by exact ef_of rfl) (fun hEL hw hO => ?_)
  have tl : (cs.take m).length = m := by simp; omega
  have nn := nlt hle hm1
  refine G.seg [(0, .iload_n 1, 1), (1, .iload_n 2, 1)] (by decide +kernel) (pc' := 2) (L' := #[.val (.ref b), .val (.int (0 : Int32)), .val (.int (Int32.ofNat m)), .unset, .unset]) (S' := [.int (Int32.ofNat m), .int (0 : Int32)]) rfl ?_
  refine G.static (y := ⟨"java/util/Arrays", "checkLength", "(II)V"⟩) (argsL := [.int (0 : Int32), .int (Int32.ofNat m)]) (rest := []) (W := 0) (by decide +kernel) (tw 163 rfl) (tw 164 rfl) (tw 158 rfl) (tw 165 rfl) (by decide) ((cklC l Z a0 n0 h (Int32.ofNat m) nn.1).pays (tw 165 rfl) (tw 158 rfl) (lb rfl) (lb rfl)) (lenOf pd1 rfl) rfl (Nat.le_of_eq rfl) rfl (lb rfl) (lb rfl) ?_
  rintro _ h1 ⟨rfl, rfl⟩
  refine G.seg [(5, .iload_n 2, 1), (6, .iload_n 1, 1), (7, .isub, 1)] (by decide +kernel) (pc' := 8) (L' := #[.val (.ref b), .val (.int (0 : Int32)), .val (.int (Int32.ofNat m)), .unset, .unset]) (S' := [.int ((Int32.ofNat m) - (0 : Int32))]) rfl ?_
  rw [sub0]
  refine G.seg [(8, .istore_n 3, 1)] (by decide +kernel) (pc' := 9) (L' := #[.val (.ref b), .val (.int (0 : Int32)), .val (.int (Int32.ofNat m)), .val (.int (Int32.ofNat m)), .unset]) (S' := []) rfl ?_
  refine G.seg [(9, .iload_n 3, 1)] (by decide +kernel) (pc' := 10) (L' := #[.val (.ref b), .val (.int (0 : Int32)), .val (.int (Int32.ofNat m)), .val (.int (Int32.ofNat m)), .unset]) (S' := [.int (Int32.ofNat m)]) rfl ?_
  refine G.newarr (aty := .byte) (ty := .byte) (cap := 8) rfl (by decide +kernel) (tw 19 rfl) nn.1 (by rw [clampk (by omega)]; exact hm4) (lb rfl) (lb rfl) (lb rfl) ?_
  intro h2 a2 k2 g2 n2 K2 A2
  refine G.seg [(12, .astore 4, 2)] (by decide +kernel) (pc' := 14) (L' := #[.val (.ref b), .val (.int (0 : Int32)), .val (.int (Int32.ofNat m)), .val (.int (Int32.ofNat m)), .val (.ref a2)]) (S' := []) rfl ?_
  refine G.seg [(14, .aload_n 0, 1), (15, .iload_n 1, 1), (16, .aload 4, 2), (18, .iconst 0, 1), (19, .aload_n 0, 1)] (by decide +kernel) (pc' := 20) (L' := #[.val (.ref b), .val (.int (0 : Int32)), .val (.int (Int32.ofNat m)), .val (.int (Int32.ofNat m)), .val (.ref a2)]) (S' := [.ref b, .int (0 : Int32), .ref a2, .int (0 : Int32), .ref b]) rfl ?_
  have B := A.keep K2 nin0
  refine G.arrlen (by decide +kernel) B ?_
  refine G.seg [(21, .iload_n 1, 1), (22, .isub, 1), (23, .iload_n 3, 1)] (by decide +kernel) (pc' := 24) (L' := #[.val (.ref b), .val (.int (0 : Int32)), .val (.int (Int32.ofNat m)), .val (.int (Int32.ofNat m)), .val (.ref a2)]) (S' := [.int (Int32.ofNat m), .int ((Int32.ofNat cs.length) - (0 : Int32)), .int (0 : Int32), .ref a2, .int (0 : Int32), .ref b]) rfl ?_
  refine G.static (y := ⟨"java/lang/Math", "min", "(II)I"⟩) (argsL := [.int ((Int32.ofNat cs.length) - (0 : Int32)), .int (Int32.ofNat m)]) (rest := [.int (0 : Int32), .ref a2, .int (0 : Int32), .ref b]) (W := 4) (by decide +kernel) (tw 166 rfl) (tw 167 rfl) (tw 168 rfl) (tw 169 rfl) (by decide) ((minC l Z a0 n0 h2 ((Int32.ofNat cs.length) - (0 : Int32)) (Int32.ofNat m)).pays (tw 169 rfl) (tw 168 rfl) (lb rfl) (lb rfl)) (lenOf pd13 rfl) rfl (Nat.le_of_eq rfl) rfl (lb rfl) (lb rfl) ?_
  rintro _ h3 ⟨rfl, rfl⟩
  rw [show (if (Int32.ofNat m) < (Int32.ofNat cs.length) - (0 : Int32) then (Int32.ofNat m) else (Int32.ofNat cs.length) - (0 : Int32)) = (Int32.ofNat m) from by rw [sub0, if_pos nn.2]]
  refine G.arrcopy (idx := 150) (o := 0) (q := 0) (n := m) (ds' := bys (cs.take m)) rfl (by decide +kernel) (tw 170 rfl) (tw 106 rfl) (tw 104 rfl) (tw 105 rfl) B A2 n2 rfl rfl rfl (by decide) (by decide) (by omega) (by rw [clampk hle]; omega) (by rw [clampk (by omega)]; omega) (fun j hj => by rw [clampk (by omega)] at hj; rw [if_pos ⟨Nat.zero_le _, by omega⟩, Nat.sub_zero, Nat.zero_add]; exact take_bytes hj) (lb rfl) (lb rfl) rfl ?_
  intro h4 K4 A4
  refine G.seg [(30, .aload 4, 2)] (by decide +kernel) (pc' := 32) (L' := #[.val (.ref b), .val (.int (0 : Int32)), .val (.int (Int32.ofNat m)), .val (.int (Int32.ofNat m)), .val (.ref a2)]) (S' := [.ref a2]) rfl ?_
  exact G.retA (by decide +kernel) rfl rfl rfl rfl ⟨a2, k2, rfl, K2.trans K4 (allS (Or.inr (Nat.le_of_eq g2.symm)) all0), by rw [tl]; exact A4⟩ (lb rfl) (lb rfl)

set_option maxRecDepth 65536 in
set_option maxHeartbeats 4000000 in
theorem corC (l : Launch) (Z : State) (a0 : Array Value) (n0 : Nat) (h : Heap) (b : Addr) (kb : ClassId) (cs : List Int32) (m : Nat) (hle : cs.length ≤ 4000) (hm0 : 0 < m) (hm1 : m < cs.length) (hm4 : m ≤ 8) (A : Arv Z h b kb .byte (Int32.ofNat cs.length) (bys cs) (.int 0)) :
    Ct l Z a0 [] tables_1 [] n0 ⟨"java/util/Arrays", "copyOfRange", "([BII)[B"⟩ jdk_65_method_132_code 3 (some (.array (.byte))) ({ frames := 2, cells := 1, slots := 8, locals := 40 } : Room) #[.ref b, .int (0 : Int32), .int (Int32.ofNat m)] h (fun v h' => ∃ (r : Addr) (kr : ClassId), v = some (.ref r) ∧ Keep h h' [] ∧ Arv Z h' r kr .byte (Int32.ofNat (cs.take m).length) (bys (cs.take m)) (.int 0)) := by
  refine Ct.of_body pn6 (L0 := #[.val (.ref b), .val (.int (0 : Int32)), .val (.int (Int32.ofNat m))]) (fun m => by exact ef_of rfl) (fun hEL hw hO => ?_)
  refine G.seg [(0, .iload_n 1, 1)] (by decide +kernel) (pc' := 1) (L' := #[.val (.ref b), .val (.int (0 : Int32)), .val (.int (Int32.ofNat m))]) (S' := [.int (0 : Int32)]) rfl ?_
  refine G.ifne (o := (9)) (pc' := 10) (by decide +kernel) (by decide) rfl (fun q1 => absurd rfl q1) ?_
  intro _
  refine G.seg [(4, .iload_n 2, 1), (5, .aload_n 0, 1)] (by decide +kernel) (pc' := 6) (L' := #[.val (.ref b), .val (.int (0 : Int32)), .val (.int (Int32.ofNat m))]) (S' := [.ref b, .int (Int32.ofNat m)]) rfl ?_
  refine G.arrlen (by decide +kernel) A ?_
  refine G.iceq (o := (10)) (pc' := 17) (by decide +kernel) (by decide) rfl (fun q2 => absurd (ninj (by omega) hle q2) (by omega)) ?_
  intro _
  refine G.seg [(10, .aload_n 0, 1), (11, .iload_n 1, 1), (12, .iload_n 2, 1)] (by decide +kernel) (pc' := 13) (L' := #[.val (.ref b), .val (.int (0 : Int32)), .val (.int (Int32.ofNat m))]) (S' := [.int (Int32.ofNat m), .int (0 : Int32), .ref b]) rfl ?_
  refine G.static (y := ⟨"java/util/Arrays", "copyOfRangeByte", "([BII)[B"⟩) (argsL := [.ref b, .int (0 : Int32), .int (Int32.ofNat m)]) (rest := []) (W := 0) (by decide +kernel) (tw 160 rfl) (tw 161 rfl) (tw 158 rfl) (tw 162 rfl) (by decide) ((cobC l Z a0 n0 h b kb cs m hle hm0 hm1 hm4 A).pays (tw 162 rfl) (tw 158 rfl) (lb rfl) (lb rfl)) (lenOf pd14 rfl) rfl (Nat.le_of_eq rfl) rfl (lb rfl) (lb rfl) ?_
  rintro _ h3 ⟨r, kr, rfl, K3, A3⟩
  exact G.retA (by decide +kernel) rfl rfl rfl rfl ⟨r, kr, rfl, K3, A3⟩ (lb rfl) (lb rfl)

set_option maxRecDepth 65536 in
set_option maxHeartbeats 4000000 in
theorem gvaC (l : Launch) (Z : State) (a0 : Array Value) (n0 : Nat) (h : Heap) {EL : List (String × Nat)} (t b : Addr) (kb : ClassId) (cs : List Int32) (F : SBs Z h t b kb cs) :
    Ct l Z a0 EL tables_1 [] n0 ⟨"java/lang/AbstractStringBuilder", "getValue", "()[B"⟩ jdk_68_method_64_code 1 (some (.array (.byte))) ({ frames := 0, cells := 0, slots := 0, locals := 0 } : Room) #[.ref t] h (fun v h' => h' = h ∧ v = some (.ref b)) := by
  refine Ct.of_body pn4 (L0 := #[.val (.ref t)]) (fun m => by exact ef_of rfl) (fun hEL hw hO => ?_)
  refine G.seg [(0, .aload_n 0, 1)] (by decide +kernel) (pc' := 1) (L' := #[.val (.ref t)]) (S' := [.ref t]) rfl ?_
  refine G.getF (by decide +kernel) (tw 47 rfl) F.2.1 ?_
  exact G.retA (by decide +kernel) rfl rfl rfl rfl ⟨rfl, rfl⟩ (lb rfl) (lb rfl)

set_option maxRecDepth 65536 in
set_option maxHeartbeats 4000000 in
theorem alnC (l : Launch) (Z : State) (a0 : Array Value) (n0 : Nat) (h : Heap) {EL : List (String × Nat)} (t b : Addr) (kb : ClassId) (cs : List Int32) (F : SBs Z h t b kb cs) :
    Ct l Z a0 EL tables_1 [] n0 ⟨"java/lang/AbstractStringBuilder", "length", "()I"⟩ jdk_68_method_6_code 1 (some (.int)) ({ frames := 0, cells := 0, slots := 0, locals := 0 } : Room) #[.ref t] h (fun v h' => h' = h ∧ v = some (.int (Int32.ofNat cs.length))) := by
  refine Ct.of_body pn4 (L0 := #[.val (.ref t)]) (fun m => by exact ef_of rfl) (fun hEL hw hO => ?_)
  refine G.seg [(0, .aload_n 0, 1)] (by decide +kernel) (pc' := 1) (L' := #[.val (.ref t)]) (S' := [.ref t]) rfl ?_
  refine G.getF (by decide +kernel) (tw 80 rfl) F.2.2.2.1 ?_
  exact G.retI (by decide +kernel) rfl ⟨rfl, rfl⟩ (lb rfl) (lb rfl)

set_option maxRecDepth 65536 in
set_option maxHeartbeats 4000000 in
theorem blnC (l : Launch) (Z : State) (a0 : Array Value) (n0 : Nat) (h : Heap) {EL : List (String × Nat)} (t b : Addr) (kb : ClassId) (cs : List Int32) (F : SBs Z h t b kb cs) :
    Ct l Z a0 EL tables_1 [] n0 ⟨"java/lang/StringBuilder", "length", "()I"⟩ jdk_67_method_93_code 1 (some (.int)) ({ frames := 1, cells := 0, slots := 0, locals := 12 } : Room) #[.ref t] h (fun v h' => h' = h ∧ v = some (.int (Int32.ofNat cs.length))) := by
  refine Ct.of_body pn5 (L0 := #[.val (.ref t)]) (fun m => by exact ef_of rfl) (fun hEL hw hO => ?_)
  refine G.seg [(0, .aload_n 0, 1)] (by decide +kernel) (pc' := 1) (L' := #[.val (.ref t)]) (S' := [.ref t]) rfl ?_
  refine G.super (y := ⟨"java/lang/AbstractStringBuilder", "length", "()I"⟩) (y1 := ⟨"java/lang/AbstractStringBuilder", "isLatin1", "()Z"⟩) (C := "java/lang/StringBuilder") (a := t) (argsL := []) (rest := []) (W := 0) (by decide) (by decide +kernel) (tw 153 rfl) (tw 148 rfl) (tw 149 rfl) (tw 66 rfl) (tw 119 rfl) rfl (tw 154 rfl) (by decide) (Ins.self F.1) ((alnC l Z a0 n0 h t b kb cs F).pays (tw 154 rfl) (tw 43 rfl) (lb rfl) (lb rfl)) (lenOf pd8 rfl) rfl (Nat.le_of_eq rfl) rfl (lb rfl) (lb rfl) ?_
  rintro _ h1 ⟨rfl, rfl⟩
  exact G.retI (by decide +kernel) rfl ⟨rfl, rfl⟩ (lb rfl) (lb rfl)

set_option maxRecDepth 65536 in
set_option maxHeartbeats 4000000 in
theorem siaC (l : Launch) (Z : State) (a0 : Array Value) (n0 : Nat) (h : Heap) (t b : Addr) (kb : ClassId) (cs : List Int32) (F : SBs Z h t b kb cs)(u : Addr) (hu : n0 ≤ u) (Eu : Exa Z h u "java/lang/String") (Vu : Fld Z h u "java/lang/String" "value" "[B" .null) (Cu : Fld Z h u "java/lang/String" "coder" "B" (.int 0)) (htu : t ≠ u) (hbu : b ≠ u) (hm0 : 0 < cs.length) (hm1 : cs.length ≤ 8) (hCS : CS Z) :
    Ct l Z a0 [] tables_1 [] n0 ⟨"java/lang/String", "<init>", "(Ljava/lang/AbstractStringBuilder;Ljava/lang/Void;)V"⟩ jdk_42_method_150_code 5 (none) ({ frames := 3, cells := 1, slots := 8, locals := 70 } : Room) #[.ref u, .ref t, .null] h (fun v h' => v = none ∧ Keep h h' [u] ∧ Str Z h' u cs) := by
  refine Ct.of_body pn0 (L0 := #[.val (.ref u), .val (.ref t), .val (.null), .unset, .unset]) (fun m => by exact ef_of rfl) (fun hEL hw hO => ?_)
  refine G.seg [(0, .aload_n 0, 1)] (by decide +kernel) (pc' := 1) (L' := #[.val (.ref u), .val (.ref t), .val (.null), .unset, .unset]) (S' := [.ref u]) rfl ?_
  refine G.initO (W := 0) (by decide +kernel) (tw 15 rfl) (tw 16 rfl) (tw 17 rfl) rfl (lb rfl) (Nat.le_of_eq rfl) (lb rfl) ?_
  refine G.seg [(4, .aload_n 1, 1)] (by decide +kernel) (pc' := 5) (L' := #[.val (.ref u), .val (.ref t), .val (.null), .unset, .unset]) (S' := [.ref t]) rfl ?_
  refine G.virtual (y := ⟨"java/lang/AbstractStringBuilder", "getValue", "()[B"⟩) (C := "java/lang/StringBuilder") (a := t) (argsL := []) (rest := []) (W := 0) (by decide +kernel) (tw 142 rfl) (tw 143 rfl) (tw 145 rfl) (tw 144 rfl) (by decide) F.1 ((gvaC l Z a0 n0 h t b kb cs F).pays (tw 146 rfl) (tw 43 rfl) (lb rfl) (lb rfl)) (lenOf pd15 rfl) rfl (Nat.le_of_eq rfl) rfl (lb rfl) (lb rfl) ?_
  rintro _ h1 ⟨rfl, rfl⟩
  refine G.seg [(8, .astore_n 3, 1)] (by decide +kernel) (pc' := 9) (L' := #[.val (.ref u), .val (.ref t), .val (.null), .val (.ref b), .unset]) (S' := []) rfl ?_
  refine G.seg [(9, .aload_n 1, 1)] (by decide +kernel) (pc' := 10) (L' := #[.val (.ref u), .val (.ref t), .val (.null), .val (.ref b), .unset]) (S' := [.ref t]) rfl ?_
  refine G.virtualZ (y := ⟨"java/lang/AbstractStringBuilder", "length", "()I"⟩) (z' := ⟨"java/lang/StringBuilder", "length", "()I"⟩) (y1 := ⟨"java/lang/AbstractStringBuilder", "isLatin1", "()Z"⟩) (C := "java/lang/StringBuilder") (a := t) (argsL := []) (rest := []) (W := 0) (by decide +kernel) (tw 147 rfl) (tw 148 rfl) (tw 150 rfl) (tw 151 rfl) (tw 119 rfl) rfl (by decide) F.1 ((blnC l Z a0 n0 h1 t b kb cs F).pays (tw 152 rfl) (tw 35 rfl) (lb rfl) (lb rfl)) (lenOf pd8 rfl) rfl (Nat.le_of_eq rfl) rfl (lb rfl) (lb rfl) ?_
  rintro _ h2 ⟨rfl, rfl⟩
  refine G.seg [(13, .istore 4, 2)] (by decide +kernel) (pc' := 15) (L' := #[.val (.ref u), .val (.ref t), .val (.null), .val (.ref b), .val (.int (Int32.ofNat cs.length))]) (S' := []) rfl ?_
  refine G.seg [(15, .aload_n 1, 1)] (by decide +kernel) (pc' := 16) (L' := #[.val (.ref u), .val (.ref t), .val (.null), .val (.ref b), .val (.int (Int32.ofNat cs.length))]) (S' := [.ref t]) rfl ?_
  refine G.virtual (y := ⟨"java/lang/AbstractStringBuilder", "isLatin1", "()Z"⟩) (C := "java/lang/StringBuilder") (a := t) (argsL := []) (rest := []) (W := 0) (by decide +kernel) (tw 155 rfl) (tw 117 rfl) (tw 119 rfl) (tw 118 rfl) (by decide) F.1 ((ailC l Z a0 n0 h2 t b kb cs F hCS).pays (tw 120 rfl) (tw 43 rfl) (lb rfl) (lb rfl)) (lenOf pd2 rfl) rfl (Nat.le_of_eq rfl) rfl (lb rfl) (lb rfl) ?_
  rintro _ h3 ⟨rfl, rfl⟩
  refine G.ifeq (o := (22)) (pc' := 41) (by decide +kernel) (by decide) rfl (fun q4 => absurd q4 (by decide)) ?_
  intro _
  refine G.seg [(22, .aload_n 0, 1), (23, .iconst 0, 1)] (by decide +kernel) (pc' := 24) (L' := #[.val (.ref u), .val (.ref t), .val (.null), .val (.ref b), .val (.int (Int32.ofNat cs.length))]) (S' := [.int (0 : Int32), .ref u]) rfl ?_
  refine G.putF (C := "java/lang/String") (by decide +kernel) (tw 25 rfl) Cu Eu (Or.inr ⟨(tw 21 rfl), rfl, rfl⟩) (tw 5 rfl) (ty := .byte) (by decide) rfl rfl hu (Or.inl rfl) ?_
  intro hp Wp Kp Fp Ep
  have Vp := past hw (Or.inr (tw 20 rfl)) (Or.inr (tw 21 rfl)) (by decide) (t := .array .byte) (by decide) (t' := .byte) (by decide) Wp Vu
  have F1 := F.keep Kp (ninS htu nin0) (ninS hbu nin0)
  have e16 : (cs ++ List.replicate (16 - cs.length) (0 : Int32)).length = 16 := by simp; omega
  have etk : (cs ++ List.replicate (16 - cs.length) (0 : Int32)).take cs.length = cs := by simp
  refine G.seg [(27, .aload_n 0, 1), (28, .aload_n 3, 1), (29, .iconst 0, 1), (30, .iload 4, 2)] (by decide +kernel) (pc' := 32) (L' := #[.val (.ref u), .val (.ref t), .val (.null), .val (.ref b), .val (.int (Int32.ofNat cs.length))]) (S' := [.int (Int32.ofNat cs.length), .int (0 : Int32), .ref b, .ref u]) rfl ?_
  refine G.static (y := ⟨"java/util/Arrays", "copyOfRange", "([BII)[B"⟩) (argsL := [.ref b, .int (0 : Int32), .int (Int32.ofNat cs.length)]) (rest := [.ref u]) (W := 1) (by decide +kernel) (tw 156 rfl) (tw 157 rfl) (tw 158 rfl) (tw 159 rfl) (by decide) ((corC l Z a0 n0 hp b kb (cs ++ List.replicate (16 - cs.length) (0 : Int32)) cs.length (by omega) hm0 (by omega) hm1 (by rw [e16]; exact F1.2.2.2.2.2.2.pad (fun i => bys_pad cs _ i))).pays (tw 159 rfl) (tw 158 rfl) (lb rfl) (lb rfl)) (lenOf pd14 rfl) rfl (Nat.le_of_eq rfl) rfl (lb rfl) (lb rfl) ?_
  rintro _ h5 ⟨r, kr, rfl, Kr, Ar⟩
  rw [etk] at Ar
  have ne : u ≠ r := Exa.neArv (Ep.keep Kr) Ar (hw _ (tw 5 rfl))
  refine G.putF (C := "java/lang/String") (by decide +kernel) (tw 24 rfl) (Vp.keep Kr nin0) (Ep.keep Kr) (Or.inr ⟨(tw 20 rfl), rfl, rfl⟩) (tw 5 rfl) (ty := .array .byte) (by decide) rfl rfl hu (Or.inl rfl) ?_
  intro hq Wq Kq Fq Eq
  have Cq := past hw (Or.inr (tw 21 rfl)) (Or.inr (tw 20 rfl)) (by decide) (t := .byte) (by decide) (t' := .array .byte) (by decide) Wq (Fp.keep Kr nin0)
  refine G.seg [(38, .goto 59, 3)] (by decide +kernel) (pc' := 97) (L' := #[.val (.ref u), .val (.ref t), .val (.null), .val (.ref b), .val (.int (Int32.ofNat cs.length))]) (S' := []) rfl ?_
  exact G.retV (by decide +kernel) rfl ⟨rfl, (Kp.trans Kr all0).trans Kq (fun x hx => Or.inl hx), Eq, Cq, F.2.2.2.2.1, by omega, r, kr, Fq, Ar.keep Kq (ninS (Ne.symm ne) nin0)⟩ (lb rfl) (lb rfl)

set_option maxRecDepth 65536 in
set_option maxHeartbeats 4000000 in
theorem sibC (l : Launch) (Z : State) (a0 : Array Value) (n0 : Nat) (h : Heap) (t b : Addr) (kb : ClassId) (cs : List Int32) (F : SBs Z h t b kb cs)(u : Addr) (hu : n0 ≤ u) (Eu : Exa Z h u "java/lang/String") (Vu : Fld Z h u "java/lang/String" "value" "[B" .null) (Cu : Fld Z h u "java/lang/String" "coder" "B" (.int 0)) (htu : t ≠ u) (hbu : b ≠ u) (hm0 : 0 < cs.length) (hm1 : cs.length ≤ 8) (hCS : CS Z) :
    Ct l Z a0 [] tables_1 [] n0 ⟨"java/lang/String", "<init>", "(Ljava/lang/StringBuilder;)V"⟩ jdk_42_method_53_code 2 (none) ({ frames := 4, cells := 1, slots := 8, locals := 90 } : Room) #[.ref u, .ref t] h (fun v h' => v = none ∧ Keep h h' [u] ∧ Str Z h' u cs) := by
  refine Ct.of_body pn0 (L0 := #[.val (.ref u), .val (.ref t)]) (fun m => by exact ef_of rfl) (fun hEL hw hO => ?_)
  refine G.seg [(0, .aload_n 0, 1), (1, .aload_n 1, 1), (2, .aconst_null, 1)] (by decide +kernel) (pc' := 3) (L' := #[.val (.ref u), .val (.ref t)]) (S' := [.null, .ref t, .ref u]) rfl ?_
  refine G.special (y := ⟨"java/lang/String", "<init>", "(Ljava/lang/AbstractStringBuilder;Ljava/lang/Void;)V"⟩) (a := u) (argsL := [.ref t, .null]) (rest := []) (W := 0) rfl (by decide +kernel) (tw 139 rfl) (tw 140 rfl) (tw 141 rfl) (by decide) ((siaC l Z a0 n0 h t b kb cs F u hu Eu Vu Cu htu hbu hm0 hm1 hCS).pays (tw 141 rfl) (tw 6 rfl) (lb rfl) (lb rfl)) (lenOf pd16 rfl) rfl (Nat.le_of_eq rfl) rfl (lb rfl) (lb rfl) ?_
  rintro _ h1 ⟨rfl, K1, A1⟩
  exact G.retV (by decide +kernel) rfl ⟨rfl, K1, A1⟩ (lb rfl) (lb rfl)

set_option maxRecDepth 65536 in
set_option maxHeartbeats 4000000 in
theorem tosC (l : Launch) (Z : State) (a0 : Array Value) (n0 : Nat) (h : Heap) (t b : Addr) (kb : ClassId) (cs : List Int32) (F : SBs Z h t b kb cs) (hm0 : 0 < cs.length) (hm1 : cs.length ≤ 8) (hCS : CS Z) :
    Ct l Z a0 [] tables_1 [] n0 ⟨"java/lang/StringBuilder", "toString", "()Ljava/lang/String;"⟩ jdk_67_method_42_code 1 (some (.object "java/lang/String")) ({ frames := 5, cells := 2, slots := 12, locals := 110 } : Room) #[.ref t] h (QM Z h cs) := by
  refine Ct.of_body pn5 (L0 := #[.val (.ref t)]) (fun m => by exact ef_of rfl) (fun hEL hw hO => ?_)
  refine G.new (by decide +kernel) (tw 135 rfl) (tw 5 rfl) (tw 6 rfl) (lb rfl) (lb rfl) ?_
  intro h1 u g1 n1 K1 E1 D1
  refine G.seg [(3, .dup, 1), (4, .aload_n 0, 1)] (by decide +kernel) (pc' := 5) (L' := #[.val (.ref t)]) (S' := [.ref t, .ref u, .ref u]) rfl ?_
  have htu : t ≠ u := fun q => Nat.lt_irrefl _ ((q.trans g1) ▸ F.1.lt)
  have hbu : b ≠ u := fun q => Nat.lt_irrefl _ ((q.trans g1) ▸ F.2.2.2.2.2.2.lt)
  refine G.special (y := ⟨"java/lang/String", "<init>", "(Ljava/lang/StringBuilder;)V"⟩) (a := u) (argsL := [.ref t]) (rest := [.ref u]) (W := 1) rfl (by decide +kernel) (tw 136 rfl) (tw 137 rfl) (tw 138 rfl) (by decide) ((sibC l Z a0 n0 h1 t b kb cs (F.keep K1 nin0 nin0) u n1 E1 (D1 (Or.inr (tw 20 rfl)) (ty := .array (.byte)) (by decide)) (D1 (Or.inr (tw 21 rfl)) (ty := .byte) (by decide)) htu hbu hm0 hm1 hCS).pays (tw 138 rfl) (tw 6 rfl) (lb rfl) (lb rfl)) (lenOf pd17 rfl) rfl (Nat.le_of_eq rfl) rfl (lb rfl) (lb rfl) ?_
  rintro _ h2 ⟨rfl, K2, A2⟩
  exact G.retA (by decide +kernel) rfl rfl rfl rfl ⟨u, rfl, K1.trans K2 (allS (Or.inr (Nat.le_of_eq g1.symm)) all0), Nat.le_of_eq g1.symm, A2⟩ (lb rfl) (lb rfl)

/-- an Html whose builder holds cs -/
def HT (Z : State) (n0 : Nat) (h : Heap) (t sb b : Addr) (kb : ClassId) (cs : List Int32) : Prop := Exa Z h t "com/example/tidy_drawings/tidydrawings/Html" ∧ Fld Z h t "com/example/tidy_drawings/tidydrawings/Html" "written" "Ljava/lang/StringBuilder;" (.ref sb) ∧ SBs Z h sb b kb cs ∧ n0 ≤ sb ∧ n0 ≤ b ∧ t ≠ sb ∧ t ≠ b
theorem HT.keep0 {Z : State} {n0 : Nat} {h h' : Heap} {t sb b : Addr} {kb : ClassId} {cs : List Int32} (F : HT Z n0 h t sb b kb cs) (K : Keep h h' []) : HT Z n0 h' t sb b kb cs := by
  obtain ⟨a1, a2, a3, r⟩ := F
  exact ⟨a1.keep K, a2.keep K nin0, a3.keep K nin0 nin0, r⟩
theorem HT.app {Z : State} {n0 : Nat} {h h' : Heap} {t sb b : Addr} {kb : ClassId} {cs ds : List Int32} (F : HT Z n0 h t sb b kb cs) (K : Keep h h' [sb, b]) (S : SBs Z h' sb b kb ds) : HT Z n0 h' t sb b kb ds := by
  obtain ⟨a1, a2, a3, r1, r2, r3, r4⟩ := F
  exact ⟨a1.keep K, a2.keep K (ninS r3 (ninS r4 nin0)), S, r1, r2, r3, r4⟩
set_option maxRecDepth 65536 in
set_option maxHeartbeats 4000000 in
theorem hinC (l : Launch) (Z : State) (a0 : Array Value) (n0 : Nat) (h : Heap) {EL : List (String × Nat)} (t : Addr) (ht : n0 ≤ t) (E : Exa Z h t "com/example/tidy_drawings/tidydrawings/Html") (Fw : Fld Z h t "com/example/tidy_drawings/tidydrawings/Html" "written" "Ljava/lang/StringBuilder;" .null) (hCS : CS Z) :
    Ct l Z a0 EL tables_1 [] n0 ⟨"com/example/tidy_drawings/tidydrawings/Html", "<init>", "()V"⟩ prog_12_method_1_code 1 (none) ({ frames := 3, cells := 2, slots := 20, locals := 50 } : Room) #[.ref t] h (fun v h' => v = none ∧ ∃ (sb b : Addr) (kb : ClassId), Keep h h' [t] ∧ HT Z n0 h' t sb b kb []) := by
  refine Ct.of_body pn7 (L0 := #[.val (.ref t)]) (fun m => by exact ef_of rfl) (fun hEL hw hO => ?_)
  refine G.seg [(0, .aload_n 0, 1)] (by decide +kernel) (pc' := 1) (L' := #[.val (.ref t)]) (S' := [.ref t]) rfl ?_
  refine G.initO (W := 0) (by decide +kernel) (tw 32 rfl) (tw 16 rfl) (tw 17 rfl) rfl (lb rfl) (Nat.le_of_eq rfl) (lb rfl) ?_
  refine G.seg [(4, .aload_n 0, 1)] (by decide +kernel) (pc' := 5) (L' := #[.val (.ref t)]) (S' := [.ref t]) rfl ?_
  refine G.new (by decide +kernel) (tw 33 rfl) (tw 34 rfl) (tw 35 rfl) (lb rfl) (lb rfl) ?_
  intro h1 sb g1 n1 K1 E1 D1
  refine G.seg [(8, .dup, 1)] (by decide +kernel) (pc' := 9) (L' := #[.val (.ref t)]) (S' := [.ref sb, .ref sb, .ref t]) rfl ?_
  refine G.special (y := ⟨"java/lang/StringBuilder", "<init>", "()V"⟩) (a := sb) (argsL := []) (rest := [.ref sb, .ref t]) (W := 2) rfl (by decide +kernel) (tw 36 rfl) (tw 37 rfl) (tw 38 rfl) (by decide) ((biC l Z a0 n0 h1 sb n1 E1 (D1 (Or.inl (tw 48 rfl)) (ty := .array (.byte)) (by decide)) (D1 (Or.inl (tw 50 rfl)) (ty := .byte) (by decide)) (D1 (Or.inl (tw 81 rfl)) (ty := .int) (by decide)) hCS).pays (tw 38 rfl) (tw 35 rfl) (lb rfl) (lb rfl)) (lenOf pd18 rfl) rfl (Nat.le_of_eq rfl) rfl (lb rfl) (lb rfl) ?_
  rintro _ h2 ⟨rfl, b, kb, Kb, gb, nb, Sb⟩
  have nt : t ≠ sb := fun q => Nat.lt_irrefl _ ((q.trans g1) ▸ E.lt)
  have ntb : t ≠ b := fun q => Nat.lt_irrefl t (Nat.lt_of_lt_of_le (Nat.lt_of_lt_of_le E.lt K1.1) (q ▸ gb))
  have KK : Keep h h2 [] := K1.trans Kb (allS (Or.inr (Nat.le_of_eq g1.symm)) all0)
  refine G.putF (C := "com/example/tidy_drawings/tidydrawings/Html") (by decide +kernel) (tw 51 rfl) (Fw.keep KK nin0) (E.keep KK) (Or.inr ⟨(tw 52 rfl), rfl, rfl⟩) (tw 27 rfl) (ty := .object "java/lang/StringBuilder") (by decide) rfl rfl ht (Or.inr (by decide)) ?_
  intro h9 W9 K9 F9 E9
  exact G.retV (by decide +kernel) rfl ⟨rfl, sb, b, kb, (kwk KK).trans K9 (fun x hx => Or.inl hx), E9, F9, Sb.keep K9 (ninS (Ne.symm nt) nin0) (ninS (Ne.symm ntb) nin0), n1, nb, nt, ntb⟩ (lb rfl) (lb rfl)

set_option maxRecDepth 65536 in
set_option maxHeartbeats 4000000 in
theorem markC (l : Launch) (Z : State) (a0 : Array Value) (n0 : Nat) (h : Heap) (t sb b : Addr) (kb : ClassId) (cs : List Int32) (T : HT Z n0 h t sb b kb cs) (s : Addr) (ds : List Int32) (A : Str Z h s ds) (hCS : CS Z) (h16 : cs.length + ds.length ≤ 16) :
    Ct l Z a0 consts_1 tables_1 [] n0 ⟨"com/example/tidy_drawings/tidydrawings/Html", "markup", "(Ljava/lang/String;)Lcom/example/tidy_drawings/tidydrawings/Html;"⟩ prog_12_method_6_code 2 (some (.object "com/example/tidy_drawings/tidydrawings/Html")) ({ frames := 5, cells := 0, slots := 0, locals := 120 } : Room) #[.ref t, .ref s] h (fun v h' => v = some (.ref t) ∧ Keep h h' [sb, b] ∧ HT Z n0 h' t sb b kb (cs ++ ds)) := by
  refine Ct.of_body pn7 (L0 := #[.val (.ref t), .val (.ref s)]) (fun m => by exact ef_of rfl) (fun hEL hw hO => ?_)
  have hNL : NoLen Z a0 consts_1 (16 : Int32).toNatClampNeg := NoLen.cons (hw _ (tw 58 rfl)) (by decide) (by decide) (NoLen.cons (hw _ (tw 18 rfl)) (by decide) (by decide) NoLen.nil)
  refine G.seg [(0, .aload_n 0, 1)] (by decide +kernel) (pc' := 1) (L' := #[.val (.ref t), .val (.ref s)]) (S' := [.ref t]) rfl ?_
  refine G.getF (by decide +kernel) (tw 51 rfl) T.2.1 ?_
  refine G.seg [(4, .aload_n 1, 1)] (by decide +kernel) (pc' := 5) (L' := #[.val (.ref t), .val (.ref s)]) (S' := [.ref s, .ref sb]) rfl ?_
  refine G.virtual (y := ⟨"java/lang/StringBuilder", "append", "(Ljava/lang/String;)Ljava/lang/StringBuilder;"⟩) (C := "java/lang/StringBuilder") (a := sb) (argsL := [.ref s]) (rest := []) (W := 0) (by decide +kernel) (tw 59 rfl) (tw 60 rfl) (tw 62 rfl) (tw 61 rfl) (by decide) T.2.2.1.1 ((bapC l Z a0 n0 h sb b kb cs T.2.2.1 T.2.2.2.1 T.2.2.2.2.1 s ds A hCS h16).warm (ws := [sb, b]) (tw 63 rfl) (tw 35 rfl) (lb rfl) (lb rfl) (fun _ _ q => q.2.1) (allS T.2.2.2.1 (allS T.2.2.2.2.1 all0)) (fun vm hv => allS (Safe.exa hv.alike T.2.2.1.1 (by decide) (by decide)) (allS (safe_sz hv hNL T.2.2.1.2.2.2.2.2.2) all0))) (lenOf pd19 rfl) rfl (Nat.le_of_eq rfl) rfl (lb rfl) (lb rfl) ?_
  rintro _ h1 ⟨rfl, K1, S1⟩
  refine G.seg [(8, .pop, 1), (9, .aload_n 0, 1)] (by decide +kernel) (pc' := 10) (L' := #[.val (.ref t), .val (.ref s)]) (S' := [.ref t]) rfl ?_
  exact G.retA (by decide +kernel) rfl rfl rfl rfl ⟨rfl, K1, T.app K1 S1⟩ (lb rfl) (lb rfl)

set_option maxRecDepth 65536 in
set_option maxHeartbeats 4000000 in
theorem closeC (l : Launch) (Z : State) (a0 : Array Value) (n0 : Nat) (h : Heap) (t sb b : Addr) (kb : ClassId) (cs : List Int32) (T : HT Z n0 h t sb b kb cs) (s : Addr) (ds : List Int32) (A : Str Z h s ds) (hCS : CS Z) (h13 : cs.length + ds.length ≤ 13) :
    Ct l Z a0 consts_1 tables_1 [] n0 ⟨"com/example/tidy_drawings/tidydrawings/Html", "close", "(Ljava/lang/String;)Lcom/example/tidy_drawings/tidydrawings/Html;"⟩ prog_12_method_3_code 2 (some (.object "com/example/tidy_drawings/tidydrawings/Html")) ({ frames := 5, cells := 2, slots := 12, locals := 120 } : Room) #[.ref t, .ref s] h (fun v h' => v = some (.ref t) ∧ Keep h h' [sb, b] ∧ HT Z n0 h' t sb b kb (((cs ++ [60, 47]) ++ ds) ++ [62])) := by
  refine Ct.of_body pn7 (L0 := #[.val (.ref t), .val (.ref s)]) (fun m => by exact ef_of rfl) (fun hEL hw hO => ?_)
  have hNL : NoLen Z a0 consts_1 (16 : Int32).toNatClampNeg := NoLen.cons (hw _ (tw 58 rfl)) (by decide) (by decide) (NoLen.cons (hw _ (tw 18 rfl)) (by decide) (by decide) NoLen.nil)
  refine G.seg [(0, .aload_n 0, 1)] (by decide +kernel) (pc' := 1) (L' := #[.val (.ref t), .val (.ref s)]) (S' := [.ref t]) rfl ?_
  refine G.getF (by decide +kernel) (tw 51 rfl) T.2.1 ?_
  refine G.ldcC (n := 8) (z := 2) (vs := bys [60, 47]) (by decide) (by decide +kernel) (tw 58 rfl) swA (by decide) ⟨by decide, by decide⟩ (by decide) (by decide) (by decide) (by decide) (lb rfl) (lb rfl) ?_
  intro h1 u ub ku Ku Eu Cu Vu Au
  have U : Str Z h1 u [60, 47] := ⟨Eu, Cu, latS ⟨by decide, by decide⟩ (latS ⟨by decide, by decide⟩ lat0), lb rfl, ub, ku, Vu, Au⟩
  have T1 := T.keep0 Ku
  have A1 := A.keep0 Ku
  refine G.virtual (y := ⟨"java/lang/StringBuilder", "append", "(Ljava/lang/String;)Ljava/lang/StringBuilder;"⟩) (C := "java/lang/StringBuilder") (a := sb) (argsL := [.ref u]) (rest := []) (W := 0) (by decide +kernel) (tw 59 rfl) (tw 60 rfl) (tw 62 rfl) (tw 61 rfl) (by decide) T1.2.2.1.1 ((bapC l Z a0 n0 h1 sb b kb _ T1.2.2.1 T1.2.2.2.1 T1.2.2.2.2.1 u [60, 47] U hCS (by simp; omega)).warm (ws := [sb, b]) (tw 63 rfl) (tw 35 rfl) (lb rfl) (lb rfl) (fun _ _ q => q.2.1) (allS T.2.2.2.1 (allS T.2.2.2.2.1 all0)) (fun vm hv => allS (Safe.exa hv.alike T1.2.2.1.1 (by decide) (by decide)) (allS (safe_sz hv hNL T1.2.2.1.2.2.2.2.2.2) all0))) (lenOf pd19 rfl) rfl (Nat.le_of_eq rfl) rfl (lb rfl) (lb rfl) ?_
  rintro _ h2 ⟨rfl, K2, S2⟩
  have T2 := T1.app K2 S2
  have A2 := A1.keepSB T1.2.2.1 K2 (by omega) (hw _ (tw 34 rfl)) (hw _ (tw 5 rfl))
  refine G.seg [(9, .aload_n 1, 1)] (by decide +kernel) (pc' := 10) (L' := #[.val (.ref t), .val (.ref s)]) (S' := [.ref s, .ref sb]) rfl ?_
  refine G.virtual (y := ⟨"java/lang/StringBuilder", "append", "(Ljava/lang/String;)Ljava/lang/StringBuilder;"⟩) (C := "java/lang/StringBuilder") (a := sb) (argsL := [.ref s]) (rest := []) (W := 0) (by decide +kernel) (tw 59 rfl) (tw 60 rfl) (tw 62 rfl) (tw 61 rfl) (by decide) T2.2.2.1.1 ((bapC l Z a0 n0 h2 sb b kb _ T2.2.2.1 T2.2.2.2.1 T2.2.2.2.2.1 s ds A2 hCS (by simp; omega)).warm (ws := [sb, b]) (tw 63 rfl) (tw 35 rfl) (lb rfl) (lb rfl) (fun _ _ q => q.2.1) (allS T.2.2.2.1 (allS T.2.2.2.2.1 all0)) (fun vm hv => allS (Safe.exa hv.alike T2.2.2.1.1 (by decide) (by decide)) (allS (safe_sz hv hNL T2.2.2.1.2.2.2.2.2.2) all0))) (lenOf pd19 rfl) rfl (Nat.le_of_eq rfl) rfl (lb rfl) (lb rfl) ?_
  rintro _ h3 ⟨rfl, K3, S3⟩
  have T3 := T2.app K3 S3
  refine G.seg [(13, .bipush 62, 2)] (by decide +kernel) (pc' := 15) (L' := #[.val (.ref t), .val (.ref s)]) (S' := [.int (62 : Int32), .ref sb]) rfl ?_
  refine G.virtual (y := ⟨"java/lang/StringBuilder", "append", "(C)Ljava/lang/StringBuilder;"⟩) (C := "java/lang/StringBuilder") (a := sb) (argsL := [.int (62 : Int32)]) (rest := []) (W := 0) (by decide +kernel) (tw 107 rfl) (tw 108 rfl) (tw 110 rfl) (tw 109 rfl) (by decide) T3.2.2.1.1 ((bacC l Z a0 n0 h3 sb b kb _ T3.2.2.1 T3.2.2.2.1 T3.2.2.2.2.1 62 ⟨by decide, by decide⟩ hCS (by simp; omega)).warm (ws := [sb, b]) (tw 111 rfl) (tw 35 rfl) (lb rfl) (lb rfl) (fun _ _ q => q.2.1) (allS T.2.2.2.1 (allS T.2.2.2.2.1 all0)) (fun vm hv => allS (Safe.exa hv.alike T3.2.2.1.1 (by decide) (by decide)) (allS (safe_sz hv hNL T3.2.2.1.2.2.2.2.2.2) all0))) (lenOf pd20 rfl) rfl (Nat.le_of_eq rfl) rfl (lb rfl) (lb rfl) ?_
  rintro _ h4 ⟨rfl, K4, S4⟩
  refine G.seg [(18, .pop, 1), (19, .aload_n 0, 1)] (by decide +kernel) (pc' := 20) (L' := #[.val (.ref t), .val (.ref s)]) (S' := [.ref t]) rfl ?_
  exact G.retA (by decide +kernel) rfl rfl rfl rfl ⟨rfl, (((kwk Ku).trans K2 (fun x hx => Or.inl hx)).trans K3 (fun x hx => Or.inl hx)).trans K4 (fun x hx => Or.inl hx), T3.app K4 S4⟩ (lb rfl) (lb rfl)

set_option maxRecDepth 65536 in
set_option maxHeartbeats 4000000 in
theorem htosC (l : Launch) (Z : State) (a0 : Array Value) (n0 : Nat) (h : Heap) (t sb b : Addr) (kb : ClassId) (cs : List Int32) (T : HT Z n0 h t sb b kb cs) (hm0 : 0 < cs.length) (hm1 : cs.length ≤ 8) (hCS : CS Z) :
    Ct l Z a0 consts_1 tables_1 [] n0 ⟨"com/example/tidy_drawings/tidydrawings/Html", "toString", "()Ljava/lang/String;"⟩ prog_12_method_7_code 1 (some (.object "java/lang/String")) ({ frames := 6, cells := 2, slots := 12, locals := 130 } : Room) #[.ref t] h (QM Z h cs) := by
  refine Ct.of_body pn7 (L0 := #[.val (.ref t)]) (fun m => by exact ef_of rfl) (fun hEL hw hO => ?_)
  refine G.seg [(0, .aload_n 0, 1)] (by decide +kernel) (pc' := 1) (L' := #[.val (.ref t)]) (S' := [.ref t]) rfl ?_
  refine G.getF (by decide +kernel) (tw 51 rfl) T.2.1 ?_
  refine G.virtual (y := ⟨"java/lang/StringBuilder", "toString", "()Ljava/lang/String;"⟩) (C := "java/lang/StringBuilder") (a := sb) (argsL := []) (rest := []) (W := 0) (by decide +kernel) (tw 130 rfl) (tw 131 rfl) (tw 133 rfl) (tw 132 rfl) (by decide) T.2.2.1.1 ((tosC l Z a0 n0 h sb b kb cs T.2.2.1 hm0 hm1 hCS).warm (ws := []) (tw 134 rfl) (tw 35 rfl) (lb rfl) (lb rfl) (fun _ _ q => q.elim fun _ r => r.2.1) all0 (fun _ _ => sf0)) (lenOf pd21 rfl) rfl (Nat.le_of_eq rfl) rfl (lb rfl) (lb rfl) ?_
  rintro _ h1 ⟨r, rfl, K1, G1, F1⟩
  exact G.retA (by decide +kernel) rfl rfl rfl rfl ⟨r, rfl, K1, G1, F1⟩ (lb rfl) (lb rfl)

def expF (i p n p0 p1 e0 e1 e2 : Int32) : Int32 := if i < p then (if i = 0 then p0 else p1) else if i - p = 0 then 60 else if i - p = 1 then 47 else if i - p - 2 < n then (if i - p - 2 = 0 then e0 else if i - p - 2 = 1 then e1 else e2) else 62
set_option maxRecDepth 65536 in
set_option maxHeartbeats 4000000 in
theorem expC (l : Launch) (Z : State) (a0 : Array Value) (n0 : Nat) (h : Heap) (i p n p0 p1 e0 e1 e2 : Int32) (hp0 : b8 p0) (hp1 : b8 p1) (he0 : b8 e0) (he1 : b8 e1) (he2 : b8 e2) :
    Ct l Z a0 consts_1 tables_1 [] n0 ⟨"com/example/tidy_drawings/tidydrawings/HtmlClosePinLaw", "exp", "(IIICCCCC)C"⟩ method_4_code 10 (some (.char)) ({ frames := 0, cells := 0, slots := 0, locals := 0 } : Room) #[.int i, .int p, .int n, .int p0, .int p1, .int e0, .int e1, .int e2] h (fun v h' => h' = h ∧ v = some (.int (expF i p n p0 p1 e0 e1 e2))) := by
  refine Ct.of_body pn8 (L0 := #[.val (.int i), .val (.int p), .val (.int n), .val (.int p0), .val (.int p1), .val (.int e0), .val (.int e1), .val (.int e2), .unset, .unset]) (fun m => by exact ef_of rfl) (fun hEL hw hO => ?_)
  refine G.seg [(0, .iload_n 0, 1), (1, .iload_n 1, 1)] (by decide +kernel) (pc' := 2) (L' := #[.val (.int i), .val (.int p), .val (.int n), .val (.int p0), .val (.int p1), .val (.int e0), .val (.int e1), .val (.int e2), .unset, .unset]) (S' := [.int p, .int i]) rfl ?_
  refine G.icge (o := (14)) (pc' := 16) (by decide +kernel) (by decide) rfl ?_ ?_
  · intro q1
    refine G.seg [(16, .iload_n 0, 1), (17, .iload_n 1, 1), (18, .isub, 1), (19, .istore 8, 2)] (by decide +kernel) (pc' := 21) (L' := #[.val (.int i), .val (.int p), .val (.int n), .val (.int p0), .val (.int p1), .val (.int e0), .val (.int e1), .val (.int e2), .val (.int (i - p)), .unset]) (S' := []) rfl ?_
    refine G.seg [(21, .iload 8, 2)] (by decide +kernel) (pc' := 23) (L' := #[.val (.int i), .val (.int p), .val (.int n), .val (.int p0), .val (.int p1), .val (.int e0), .val (.int e1), .val (.int e2), .val (.int (i - p)), .unset]) (S' := [.int (i - p)]) rfl ?_
    refine G.ifne (o := (6)) (pc' := 29) (by decide +kernel) (by decide) rfl ?_ ?_
    · intro q2
      refine G.seg [(29, .iload 8, 2), (31, .iconst 1, 1)] (by decide +kernel) (pc' := 32) (L' := #[.val (.int i), .val (.int p), .val (.int n), .val (.int p0), .val (.int p1), .val (.int e0), .val (.int e1), .val (.int e2), .val (.int (i - p)), .unset]) (S' := [.int (1 : Int32), .int (i - p)]) rfl ?_
      refine G.icne (o := (6)) (pc' := 38) (by decide +kernel) (by decide) rfl ?_ ?_
      · intro q3
        refine G.seg [(38, .iload 8, 2), (40, .iconst 2, 1), (41, .isub, 1), (42, .istore 9, 2)] (by decide +kernel) (pc' := 44) (L' := #[.val (.int i), .val (.int p), .val (.int n), .val (.int p0), .val (.int p1), .val (.int e0), .val (.int e1), .val (.int e2), .val (.int (i - p)), .val (.int ((i - p) - (2 : Int32)))]) (S' := []) rfl ?_
        refine G.seg [(44, .iload 9, 2), (46, .iload_n 2, 1)] (by decide +kernel) (pc' := 47) (L' := #[.val (.int i), .val (.int p), .val (.int n), .val (.int p0), .val (.int p1), .val (.int e0), .val (.int e1), .val (.int e2), .val (.int (i - p)), .val (.int ((i - p) - (2 : Int32)))]) (S' := [.int n, .int ((i - p) - (2 : Int32))]) rfl ?_
        refine G.icge (o := (23)) (pc' := 70) (by decide +kernel) (by decide) rfl ?_ ?_
        · intro q4
          refine G.seg [(70, .bipush 62, 2)] (by decide +kernel) (pc' := 72) (L' := #[.val (.int i), .val (.int p), .val (.int n), .val (.int p0), .val (.int p1), .val (.int e0), .val (.int e1), .val (.int e2), .val (.int (i - p)), .val (.int ((i - p) - (2 : Int32)))]) (S' := [.int (62 : Int32)]) rfl ?_
          exact G.retN (by decide +kernel) rfl (Or.inr (Or.inr (Or.inl rfl))) (nar_b8 ⟨by decide, by decide⟩) ⟨rfl, by rw [expF, if_neg q1, if_neg q2, if_neg q3, if_neg q4]⟩ (lb rfl) (lb rfl)
        · intro q4
          refine G.seg [(50, .iload 9, 2)] (by decide +kernel) (pc' := 52) (L' := #[.val (.int i), .val (.int p), .val (.int n), .val (.int p0), .val (.int p1), .val (.int e0), .val (.int e1), .val (.int e2), .val (.int (i - p)), .val (.int ((i - p) - (2 : Int32)))]) (S' := [.int ((i - p) - (2 : Int32))]) rfl ?_
          refine G.ifne (o := (6)) (pc' := 58) (by decide +kernel) (by decide) rfl ?_ ?_
          · intro q5
            refine G.seg [(58, .iload 9, 2), (60, .iconst 1, 1)] (by decide +kernel) (pc' := 61) (L' := #[.val (.int i), .val (.int p), .val (.int n), .val (.int p0), .val (.int p1), .val (.int e0), .val (.int e1), .val (.int e2), .val (.int (i - p)), .val (.int ((i - p) - (2 : Int32)))]) (S' := [.int (1 : Int32), .int ((i - p) - (2 : Int32))]) rfl ?_
            refine G.icne (o := (6)) (pc' := 67) (by decide +kernel) (by decide) rfl ?_ ?_
            · intro q6
              refine G.seg [(67, .iload 7, 2)] (by decide +kernel) (pc' := 69) (L' := #[.val (.int i), .val (.int p), .val (.int n), .val (.int p0), .val (.int p1), .val (.int e0), .val (.int e1), .val (.int e2), .val (.int (i - p)), .val (.int ((i - p) - (2 : Int32)))]) (S' := [.int e2]) rfl ?_
              exact G.retN (by decide +kernel) rfl (Or.inr (Or.inr (Or.inl rfl))) (nar_b8 he2) ⟨rfl, by rw [expF, if_neg q1, if_neg q2, if_neg q3, if_pos q4, if_neg q5, if_neg q6]⟩ (lb rfl) (lb rfl)
            · intro q6
              refine G.seg [(64, .iload 6, 2)] (by decide +kernel) (pc' := 66) (L' := #[.val (.int i), .val (.int p), .val (.int n), .val (.int p0), .val (.int p1), .val (.int e0), .val (.int e1), .val (.int e2), .val (.int (i - p)), .val (.int ((i - p) - (2 : Int32)))]) (S' := [.int e1]) rfl ?_
              exact G.retN (by decide +kernel) rfl (Or.inr (Or.inr (Or.inl rfl))) (nar_b8 he1) ⟨rfl, by rw [expF, if_neg q1, if_neg q2, if_neg q3, if_pos q4, if_neg q5, if_pos q6]⟩ (lb rfl) (lb rfl)
          · intro q5
            refine G.seg [(55, .iload 5, 2)] (by decide +kernel) (pc' := 57) (L' := #[.val (.int i), .val (.int p), .val (.int n), .val (.int p0), .val (.int p1), .val (.int e0), .val (.int e1), .val (.int e2), .val (.int (i - p)), .val (.int ((i - p) - (2 : Int32)))]) (S' := [.int e0]) rfl ?_
            exact G.retN (by decide +kernel) rfl (Or.inr (Or.inr (Or.inl rfl))) (nar_b8 he0) ⟨rfl, by rw [expF, if_neg q1, if_neg q2, if_neg q3, if_pos q4, if_pos q5]⟩ (lb rfl) (lb rfl)
      · intro q3
        refine G.seg [(35, .bipush 47, 2)] (by decide +kernel) (pc' := 37) (L' := #[.val (.int i), .val (.int p), .val (.int n), .val (.int p0), .val (.int p1), .val (.int e0), .val (.int e1), .val (.int e2), .val (.int (i - p)), .unset]) (S' := [.int (47 : Int32)]) rfl ?_
        exact G.retN (by decide +kernel) rfl (Or.inr (Or.inr (Or.inl rfl))) (nar_b8 ⟨by decide, by decide⟩) ⟨rfl, by rw [expF, if_neg q1, if_neg q2, if_pos q3]⟩ (lb rfl) (lb rfl)
    · intro q2
      refine G.seg [(26, .bipush 60, 2)] (by decide +kernel) (pc' := 28) (L' := #[.val (.int i), .val (.int p), .val (.int n), .val (.int p0), .val (.int p1), .val (.int e0), .val (.int e1), .val (.int e2), .val (.int (i - p)), .unset]) (S' := [.int (60 : Int32)]) rfl ?_
      exact G.retN (by decide +kernel) rfl (Or.inr (Or.inr (Or.inl rfl))) (nar_b8 ⟨by decide, by decide⟩) ⟨rfl, by rw [expF, if_neg q1, if_pos q2]⟩ (lb rfl) (lb rfl)
  · intro q1
    refine G.seg [(5, .iload_n 0, 1)] (by decide +kernel) (pc' := 6) (L' := #[.val (.int i), .val (.int p), .val (.int n), .val (.int p0), .val (.int p1), .val (.int e0), .val (.int e1), .val (.int e2), .unset, .unset]) (S' := [.int i]) rfl ?_
    refine G.ifne (o := (7)) (pc' := 13) (by decide +kernel) (by decide) rfl ?_ ?_
    · intro q7
      refine G.seg [(13, .iload 4, 2)] (by decide +kernel) (pc' := 15) (L' := #[.val (.int i), .val (.int p), .val (.int n), .val (.int p0), .val (.int p1), .val (.int e0), .val (.int e1), .val (.int e2), .unset, .unset]) (S' := [.int p1]) rfl ?_
      exact G.retN (by decide +kernel) rfl (Or.inr (Or.inr (Or.inl rfl))) (nar_b8 hp1) ⟨rfl, by rw [expF, if_pos q1, if_neg q7]⟩ (lb rfl) (lb rfl)
    · intro q7
      refine G.seg [(9, .iload_n 3, 1), (10, .goto 5, 3)] (by decide +kernel) (pc' := 15) (L' := #[.val (.int i), .val (.int p), .val (.int n), .val (.int p0), .val (.int p1), .val (.int e0), .val (.int e1), .val (.int e2), .unset, .unset]) (S' := [.int p0]) rfl ?_
      exact G.retN (by decide +kernel) rfl (Or.inr (Or.inr (Or.inl rfl))) (nar_b8 hp0) ⟨rfl, by rw [expF, if_pos q1, if_pos q7]⟩ (lb rfl) (lb rfl)

set_option maxRecDepth 65536 in
set_option maxHeartbeats 4000000 in
theorem atC (l : Launch) (Z : State) (a0 : Array Value) (n0 : Nat) (h : Heap) (o : Addr) (os : List Int32) (A : Str Z h o os) (hCS : CS Z) (hFM : FM Z) (i len p n p0 p1 e0 e1 e2 : Int32) (hp0 : b8 p0) (hp1 : b8 p1) (he0 : b8 e0) (he1 : b8 e1) (he2 : b8 e2) (ho : i < len → (¬ i < 0 ∧ i < Int32.ofNat os.length) ∧ os.getD i.toNatClampNeg 0 = expF i p n p0 p1 e0 e1 e2) :
    Ct l Z a0 consts_1 tables_1 [] n0 ⟨"com/example/tidy_drawings/tidydrawings/HtmlClosePinLaw", "at", "(Ljava/lang/String;IIIICCCCC)Z"⟩ method_3_code 10 (some (.boolean)) ({ frames := 4, cells := 0, slots := 0, locals := 60 } : Room) #[.ref o, .int i, .int len, .int p, .int n, .int p0, .int p1, .int e0, .int e1, .int e2] h (fun v h' => h' = h ∧ v = some (.int 1)) := by
  refine Ct.of_body pn8 (L0 := #[.val (.ref o), .val (.int i), .val (.int len), .val (.int p), .val (.int n), .val (.int p0), .val (.int p1), .val (.int e0), .val (.int e1), .val (.int e2)]) (fun m => by exact ef_of rfl) (fun hEL hw hO => ?_)
  refine G.seg [(0, .iload_n 1, 1), (1, .iload_n 2, 1)] (by decide +kernel) (pc' := 2) (L' := #[.val (.ref o), .val (.int i), .val (.int len), .val (.int p), .val (.int n), .val (.int p0), .val (.int p1), .val (.int e0), .val (.int e1), .val (.int e2)]) (S' := [.int len, .int i]) rfl ?_
  refine G.iclt (o := (5)) (pc' := 7) (by decide +kernel) (by decide) rfl ?_ ?_
  · intro q1
    refine G.seg [(7, .aload_n 0, 1), (8, .iload_n 1, 1)] (by decide +kernel) (pc' := 9) (L' := #[.val (.ref o), .val (.int i), .val (.int len), .val (.int p), .val (.int n), .val (.int p0), .val (.int p1), .val (.int e0), .val (.int e1), .val (.int e2)]) (S' := [.int i, .ref o]) rfl ?_
    refine G.virtual (y := ⟨"java/lang/String", "charAt", "(I)C"⟩) (C := "java/lang/String") (a := o) (argsL := [.int i]) (rest := []) (W := 0) (by decide +kernel) (tw 175 rfl) (tw 176 rfl) (tw 178 rfl) (tw 177 rfl) (by decide) A.1 ((chC l Z a0 n0 h o os i A hCS (ho q1).1 hFM).pays (tw 179 rfl) (tw 6 rfl) (lb rfl) (lb rfl)) (lenOf pd22 rfl) rfl (Nat.le_of_eq rfl) rfl (lb rfl) (lb rfl) ?_
    rintro _ h2 ⟨rfl, rfl⟩
    refine G.seg [(12, .iload_n 1, 1), (13, .iload_n 3, 1), (14, .iload 4, 2), (16, .iload 5, 2), (18, .iload 6, 2), (20, .iload 7, 2), (22, .iload 8, 2), (24, .iload 9, 2)] (by decide +kernel) (pc' := 26) (L' := #[.val (.ref o), .val (.int i), .val (.int len), .val (.int p), .val (.int n), .val (.int p0), .val (.int p1), .val (.int e0), .val (.int e1), .val (.int e2)]) (S' := [.int e2, .int e1, .int e0, .int p1, .int p0, .int n, .int p, .int i, .int (os.getD i.toNatClampNeg 0)]) rfl ?_
    refine G.static (y := ⟨"com/example/tidy_drawings/tidydrawings/HtmlClosePinLaw", "exp", "(IIICCCCC)C"⟩) (argsL := [.int i, .int p, .int n, .int p0, .int p1, .int e0, .int e1, .int e2]) (rest := [.int (os.getD i.toNatClampNeg 0)]) (W := 1) (by decide +kernel) (tw 196 rfl) (tw 197 rfl) (tw 2 rfl) (tw 198 rfl) (by decide) ((expC l Z a0 n0 h2 i p n p0 p1 e0 e1 e2 hp0 hp1 he0 he1 he2).pays (tw 198 rfl) (tw 2 rfl) (lb rfl) (lb rfl)) (lenOf pd23 rfl) rfl (Nat.le_of_eq rfl) rfl (lb rfl) (lb rfl) ?_
    rintro _ h3 ⟨rfl, rfl⟩
    refine G.icne (o := (7)) (pc' := 36) (by decide +kernel) (by decide) rfl (fun q4 => absurd (ho q1).2 q4) ?_
    intro _
    refine G.seg [(32, .iconst 1, 1), (33, .goto 4, 3)] (by decide +kernel) (pc' := 37) (L' := #[.val (.ref o), .val (.int i), .val (.int len), .val (.int p), .val (.int n), .val (.int p0), .val (.int p1), .val (.int e0), .val (.int e1), .val (.int e2)]) (S' := [.int (1 : Int32)]) rfl ?_
    exact G.retN (by decide +kernel) rfl (Or.inl rfl) rfl ⟨rfl, rfl⟩ (lb rfl) (lb rfl)
  · intro q1
    refine G.seg [(5, .iconst 1, 1)] (by decide +kernel) (pc' := 6) (L' := #[.val (.ref o), .val (.int i), .val (.int len), .val (.int p), .val (.int n), .val (.int p0), .val (.int p1), .val (.int e0), .val (.int e1), .val (.int e2)]) (S' := [.int (1 : Int32)]) rfl ?_
    exact G.retN (by decide +kernel) rfl (Or.inl rfl) rfl ⟨rfl, rfl⟩ (lb rfl) (lb rfl)

set_option maxRecDepth 65536 in
set_option maxHeartbeats 4000000 in
theorem strC (l : Launch) (Z : State) (a0 : Array Value) (n0 : Nat) (h : Heap) (n c0 c1 c2 : Int32) (hc0 : b8 c0) (hc1 : b8 c1) (hc2 : b8 c2) (hCS : CS Z) :
    Ct l Z a0 consts_1 tables_1 [] n0 ⟨"com/example/tidy_drawings/tidydrawings/HtmlClosePinLaw", "str", "(ICCC)Ljava/lang/String;"⟩ method_5_code 4 (some (.object "java/lang/String")) ({ frames := 4, cells := 4, slots := 14, locals := 66 } : Room) #[.int n, .int c0, .int c1, .int c2] h (QM Z h (mkL n c0 c1 c2)) := by
  refine Ct.of_body pn8 (L0 := #[.val (.int n), .val (.int c0), .val (.int c1), .val (.int c2)]) (fun m => by exact ef_of rfl) (fun hEL hw hO => ?_)
  refine G.seg [(0, .iload_n 0, 1)] (by decide +kernel) (pc' := 1) (L' := #[.val (.int n), .val (.int c0), .val (.int c1), .val (.int c2)]) (S' := [.int n]) rfl ?_
  refine G.ifne (o := (14)) (pc' := 15) (by decide +kernel) (by decide) rfl ?_ ?_
  · intro q1
    refine G.seg [(15, .iload_n 0, 1), (16, .iconst 1, 1)] (by decide +kernel) (pc' := 17) (L' := #[.val (.int n), .val (.int c0), .val (.int c1), .val (.int c2)]) (S' := [.int (1 : Int32), .int n]) rfl ?_
    refine G.icne (o := (18)) (pc' := 35) (by decide +kernel) (by decide) rfl ?_ ?_
    · intro q2
      refine G.seg [(35, .iload_n 0, 1), (36, .iconst 2, 1)] (by decide +kernel) (pc' := 37) (L' := #[.val (.int n), .val (.int c0), .val (.int c1), .val (.int c2)]) (S' := [.int (2 : Int32), .int n]) rfl ?_
      refine G.icne (o := (22)) (pc' := 59) (by decide +kernel) (by decide) rfl ?_ ?_
      · intro q3
        refine G.new (by decide +kernel) (tw 4 rfl) (tw 5 rfl) (tw 6 rfl) (lb rfl) (lb rfl) ?_
        intro h4 a4 g4 n4 K4 E4 D4
        refine G.seg [(62, .dup, 1), (63, .iconst 3, 1)] (by decide +kernel) (pc' := 64) (L' := #[.val (.int n), .val (.int c0), .val (.int c1), .val (.int c2)]) (S' := [.int (3 : Int32), .ref a4, .ref a4]) rfl ?_
        refine G.newarr (aty := .char) (ty := .char) (cap := 3) rfl (by decide +kernel) (tw 7 rfl) (by decide) (lb rfl) (lb rfl) (lb rfl) (lb rfl) ?_
        intro h5 a5 k5 g5 n5 K5 A5
        refine G.seg [(66, .dup, 1), (67, .iconst 0, 1), (68, .iload_n 1, 1)] (by decide +kernel) (pc' := 69) (L' := #[.val (.int n), .val (.int c0), .val (.int c1), .val (.int c2)]) (S' := [.int c0, .int (0 : Int32), .ref a5, .ref a5, .ref a4, .ref a4]) rfl ?_
        refine G.castore (i := 0) (x' := c0) (by decide +kernel) A5 n5 ⟨by decide, by decide⟩ rfl (lb rfl) (nar_b8 hc0) ?_
        intro h6 K6 A6
        have KA6 := Keep.trans K5 K6 (allS (Or.inr (Nat.le_of_eq g5.symm)) all0)
        refine G.seg [(70, .dup, 1), (71, .iconst 1, 1), (72, .iload_n 2, 1)] (by decide +kernel) (pc' := 73) (L' := #[.val (.int n), .val (.int c0), .val (.int c1), .val (.int c2)]) (S' := [.int c1, .int (1 : Int32), .ref a5, .ref a5, .ref a4, .ref a4]) rfl ?_
        refine G.castore (i := 1) (x' := c1) (by decide +kernel) A6 n5 ⟨by decide, by decide⟩ rfl (lb rfl) (nar_b8 hc1) ?_
        intro h7 K7 A7
        have KA7 := Keep.trans KA6 K7 (allS (Or.inr (Nat.le_of_eq g5.symm)) all0)
        refine G.seg [(74, .dup, 1), (75, .iconst 2, 1), (76, .iload_n 3, 1)] (by decide +kernel) (pc' := 77) (L' := #[.val (.int n), .val (.int c0), .val (.int c1), .val (.int c2)]) (S' := [.int c2, .int (2 : Int32), .ref a5, .ref a5, .ref a4, .ref a4]) rfl ?_
        refine G.castore (i := 2) (x' := c2) (by decide +kernel) A7 n5 ⟨by decide, by decide⟩ rfl (lb rfl) (nar_b8 hc2) ?_
        intro h8 K8 A8
        have KA8 := Keep.trans KA7 K8 (allS (Or.inr (Nat.le_of_eq g5.symm)) all0)
        refine G.special (y := N1) (a := a4) (argsL := [.ref a5]) (rest := [.ref a4]) (W := 1) rfl (by decide +kernel) (tw 8 rfl) (tw 9 rfl) (tw 10 rfl) (by decide)
          (newStr (cs := [c0, c1, c2]) sw1 swE hm7 n4 (E4.keep KA8) ((D4 (Or.inr (tw 20 rfl)) (ty := .array .byte) (by decide)).keep KA8 nin0) ((D4 (Or.inr (tw 21 rfl)) (ty := .byte) (by decide)).keep KA8 nin0) A8 hCS (latS hc0 (latS hc1 (latS hc2 (lat0)))) (lb rfl) (lb rfl) (lb rfl)) (lenOf pdN1 rfl) rfl (Nat.le_of_eq rfl) rfl (lb rfl) (lb rfl) ?_
        rintro _ h9 ⟨rfl, K9, F9⟩
        have KS9 : Keep h h9 [] := ((K4.trans KA8 all0).trans K9 (allS (Or.inr (Nat.le_of_eq g4.symm)) all0))
        exact G.retA (by decide +kernel) rfl rfl rfl rfl ⟨a4, rfl, KS9, Nat.le_of_eq g4.symm, by simpa [mkL, *] using F9⟩ (lb rfl) (lb rfl)
      · intro q3
        refine G.new (by decide +kernel) (tw 4 rfl) (tw 5 rfl) (tw 6 rfl) (lb rfl) (lb rfl) ?_
        intro h10 a10 g10 n10 K10 E10 D10
        refine G.seg [(43, .dup, 1), (44, .iconst 2, 1)] (by decide +kernel) (pc' := 45) (L' := #[.val (.int n), .val (.int c0), .val (.int c1), .val (.int c2)]) (S' := [.int (2 : Int32), .ref a10, .ref a10]) rfl ?_
        refine G.newarr (aty := .char) (ty := .char) (cap := 2) rfl (by decide +kernel) (tw 7 rfl) (by decide) (lb rfl) (lb rfl) (lb rfl) (lb rfl) ?_
        intro h11 a11 k11 g11 n11 K11 A11
        refine G.seg [(47, .dup, 1), (48, .iconst 0, 1), (49, .iload_n 1, 1)] (by decide +kernel) (pc' := 50) (L' := #[.val (.int n), .val (.int c0), .val (.int c1), .val (.int c2)]) (S' := [.int c0, .int (0 : Int32), .ref a11, .ref a11, .ref a10, .ref a10]) rfl ?_
        refine G.castore (i := 0) (x' := c0) (by decide +kernel) A11 n11 ⟨by decide, by decide⟩ rfl (lb rfl) (nar_b8 hc0) ?_
        intro h12 K12 A12
        have KA12 := Keep.trans K11 K12 (allS (Or.inr (Nat.le_of_eq g11.symm)) all0)
        refine G.seg [(51, .dup, 1), (52, .iconst 1, 1), (53, .iload_n 2, 1)] (by decide +kernel) (pc' := 54) (L' := #[.val (.int n), .val (.int c0), .val (.int c1), .val (.int c2)]) (S' := [.int c1, .int (1 : Int32), .ref a11, .ref a11, .ref a10, .ref a10]) rfl ?_
        refine G.castore (i := 1) (x' := c1) (by decide +kernel) A12 n11 ⟨by decide, by decide⟩ rfl (lb rfl) (nar_b8 hc1) ?_
        intro h13 K13 A13
        have KA13 := Keep.trans KA12 K13 (allS (Or.inr (Nat.le_of_eq g11.symm)) all0)
        refine G.special (y := N1) (a := a10) (argsL := [.ref a11]) (rest := [.ref a10]) (W := 1) rfl (by decide +kernel) (tw 8 rfl) (tw 9 rfl) (tw 10 rfl) (by decide)
          (newStr (cs := [c0, c1]) sw1 swE hm7 n10 (E10.keep KA13) ((D10 (Or.inr (tw 20 rfl)) (ty := .array .byte) (by decide)).keep KA13 nin0) ((D10 (Or.inr (tw 21 rfl)) (ty := .byte) (by decide)).keep KA13 nin0) A13 hCS (latS hc0 (latS hc1 (lat0))) (lb rfl) (lb rfl) (lb rfl)) (lenOf pdN1 rfl) rfl (Nat.le_of_eq rfl) rfl (lb rfl) (lb rfl) ?_
        rintro _ h14 ⟨rfl, K14, F14⟩
        have KS14 : Keep h h14 [] := ((K10.trans KA13 all0).trans K14 (allS (Or.inr (Nat.le_of_eq g10.symm)) all0))
        exact G.retA (by decide +kernel) rfl rfl rfl rfl ⟨a10, rfl, KS14, Nat.le_of_eq g10.symm, by simpa [mkL, *] using F14⟩ (lb rfl) (lb rfl)
    · intro q2
      refine G.new (by decide +kernel) (tw 4 rfl) (tw 5 rfl) (tw 6 rfl) (lb rfl) (lb rfl) ?_
      intro h15 a15 g15 n15 K15 E15 D15
      refine G.seg [(23, .dup, 1), (24, .iconst 1, 1)] (by decide +kernel) (pc' := 25) (L' := #[.val (.int n), .val (.int c0), .val (.int c1), .val (.int c2)]) (S' := [.int (1 : Int32), .ref a15, .ref a15]) rfl ?_
      refine G.newarr (aty := .char) (ty := .char) (cap := 1) rfl (by decide +kernel) (tw 7 rfl) (by decide) (lb rfl) (lb rfl) (lb rfl) (lb rfl) ?_
      intro h16 a16 k16 g16 n16 K16 A16
      refine G.seg [(27, .dup, 1), (28, .iconst 0, 1), (29, .iload_n 1, 1)] (by decide +kernel) (pc' := 30) (L' := #[.val (.int n), .val (.int c0), .val (.int c1), .val (.int c2)]) (S' := [.int c0, .int (0 : Int32), .ref a16, .ref a16, .ref a15, .ref a15]) rfl ?_
      refine G.castore (i := 0) (x' := c0) (by decide +kernel) A16 n16 ⟨by decide, by decide⟩ rfl (lb rfl) (nar_b8 hc0) ?_
      intro h17 K17 A17
      have KA17 := Keep.trans K16 K17 (allS (Or.inr (Nat.le_of_eq g16.symm)) all0)
      refine G.special (y := N1) (a := a15) (argsL := [.ref a16]) (rest := [.ref a15]) (W := 1) rfl (by decide +kernel) (tw 8 rfl) (tw 9 rfl) (tw 10 rfl) (by decide)
        (newStr (cs := [c0]) sw1 swE hm7 n15 (E15.keep KA17) ((D15 (Or.inr (tw 20 rfl)) (ty := .array .byte) (by decide)).keep KA17 nin0) ((D15 (Or.inr (tw 21 rfl)) (ty := .byte) (by decide)).keep KA17 nin0) A17 hCS (latS hc0 (lat0)) (lb rfl) (lb rfl) (lb rfl)) (lenOf pdN1 rfl) rfl (Nat.le_of_eq rfl) rfl (lb rfl) (lb rfl) ?_
      rintro _ h18 ⟨rfl, K18, F18⟩
      have KS18 : Keep h h18 [] := ((K15.trans KA17 all0).trans K18 (allS (Or.inr (Nat.le_of_eq g15.symm)) all0))
      exact G.retA (by decide +kernel) rfl rfl rfl rfl ⟨a15, rfl, KS18, Nat.le_of_eq g15.symm, by simpa [mkL, *] using F18⟩ (lb rfl) (lb rfl)
  · intro q1
    refine G.new (by decide +kernel) (tw 4 rfl) (tw 5 rfl) (tw 6 rfl) (lb rfl) (lb rfl) ?_
    intro h19 a19 g19 n19 K19 E19 D19
    refine G.seg [(7, .dup, 1), (8, .iconst 0, 1)] (by decide +kernel) (pc' := 9) (L' := #[.val (.int n), .val (.int c0), .val (.int c1), .val (.int c2)]) (S' := [.int (0 : Int32), .ref a19, .ref a19]) rfl ?_
    refine G.newarr (aty := .char) (ty := .char) (cap := 0) rfl (by decide +kernel) (tw 7 rfl) (by decide) (lb rfl) (lb rfl) (lb rfl) (lb rfl) ?_
    intro h20 a20 k20 g20 n20 K20 A20
    refine G.special (y := N1) (a := a19) (argsL := [.ref a20]) (rest := [.ref a19]) (W := 1) rfl (by decide +kernel) (tw 8 rfl) (tw 9 rfl) (tw 10 rfl) (by decide)
      (newStr (cs := []) sw1 swE hm7 n19 (E19.keep K20) ((D19 (Or.inr (tw 20 rfl)) (ty := .array .byte) (by decide)).keep K20 nin0) ((D19 (Or.inr (tw 21 rfl)) (ty := .byte) (by decide)).keep K20 nin0) A20 hCS (lat0) (lb rfl) (lb rfl) (lb rfl)) (lenOf pdN1 rfl) rfl (Nat.le_of_eq rfl) rfl (lb rfl) (lb rfl) ?_
    rintro _ h21 ⟨rfl, K21, F21⟩
    have KS21 : Keep h h21 [] := ((K19.trans K20 all0).trans K21 (allS (Or.inr (Nat.le_of_eq g19.symm)) all0))
    exact G.retA (by decide +kernel) rfl rfl rfl rfl ⟨a19, rfl, KS21, Nat.le_of_eq g19.symm, by simpa [mkL, *] using F21⟩ (lb rfl) (lb rfl)

def outL (p n p0 p1 e0 e1 e2 : Int32) : List Int32 := ((mkL p p0 p1 0 ++ [60, 47]) ++ mkL n e0 e1 e2) ++ [62]
theorem mkl3 (n c0 c1 c2 : Int32) : (mkL n c0 c1 c2).length ≤ 3 := by unfold mkL; split <;> (try split) <;> (try split) <;> simp
theorem out_len {p n p0 p1 e0 e1 e2 : Int32} (hp : p = 0 ∨ p = 1 ∨ p = 2) (hn : n = 0 ∨ n = 1 ∨ n = 2 ∨ n = 3) : Int32.ofNat (outL p n p0 p1 e0 e1 e2).length = p + n + 3 ∧ 0 < (outL p n p0 p1 e0 e1 e2).length ∧ (outL p n p0 p1 e0 e1 e2).length ≤ 8 ∧ (mkL p p0 p1 0).length + (mkL n e0 e1 e2).length ≤ 13 := by
  rcases hp with rfl | rfl | rfl <;> rcases hn with rfl | rfl | rfl | rfl <;> exact ⟨rfl, lb rfl, lb rfl, lb rfl⟩
theorem at_ok {p n p0 p1 e0 e1 e2 : Int32} (hp : p = 0 ∨ p = 1 ∨ p = 2) (hn : n = 0 ∨ n = 1 ∨ n = 2 ∨ n = 3) (i : Int32) (hi : i = 0 ∨ i = 1 ∨ i = 2 ∨ i = 3 ∨ i = 4 ∨ i = 5 ∨ i = 6 ∨ i = 7) : i < p + n + 3 → (¬ i < 0 ∧ i < Int32.ofNat (outL p n p0 p1 e0 e1 e2).length) ∧ (outL p n p0 p1 e0 e1 e2).getD i.toNatClampNeg 0 = expF i p n p0 p1 e0 e1 e2 := by
  intro q
  refine ⟨⟨?_, (out_len hp hn).1 ▸ q⟩, ?_⟩
  · rcases hi with rfl | rfl | rfl | rfl | rfl | rfl | rfl | rfl <;> decide
  · rcases hp with rfl | rfl | rfl <;> rcases hn with rfl | rfl | rfl | rfl <;> rcases hi with rfl | rfl | rfl | rfl | rfl | rfl | rfl | rfl <;> first | rfl | exact absurd q (by decide)
set_option maxRecDepth 65536 in
set_option maxHeartbeats 4000000 in
theorem lawC (l : Launch) (Z : State) (a0 : Array Value) (n0 : Nat) (h : Heap) (xa ya za : Int32) (hCS : CS Z) (hFM : FM Z) :
    Ct l Z a0 consts_1 tables_1 tables_1 n0 x code maxLocals ret room_1 #[.int xa, .int ya, .int za] h (fun v _ => v = some (.int 1)) := by
  refine Ct.of_body pn8 (L0 := #[.val (.int xa), .val (.int ya), .val (.int za), .unset, .unset, .unset, .unset, .unset, .unset, .unset, .unset, .unset, .unset, .unset, .unset, .unset]) (fun m => ef_of rfl) (fun hEL hw hO => ?_)
  refine G.seg [(0, .iload_n 0, 1), (1, .iconst 3, 1), (2, .iand, 1), (3, .iconst 3, 1), (4, .irem, 1), (5, .istore_n 3, 1)] (by decide +kernel) (pc' := 6) (L' := #[.val (.int xa), .val (.int ya), .val (.int za), .val (.int ((xa &&& (3 : Int32)) % (3 : Int32))), .unset, .unset, .unset, .unset, .unset, .unset, .unset, .unset, .unset, .unset, .unset, .unset]) (S' := []) rfl ?_
  refine G.seg [(6, .iload_n 0, 1), (7, .iconst 2, 1), (8, .iushr, 1), (9, .iconst 3, 1), (10, .iand, 1), (11, .istore 4, 2)] (by decide +kernel) (pc' := 13) (L' := #[.val (.int xa), .val (.int ya), .val (.int za), .val (.int ((xa &&& (3 : Int32)) % (3 : Int32))), .val (.int ((XT.ushr xa (2 : Int32)) &&& (3 : Int32))), .unset, .unset, .unset, .unset, .unset, .unset, .unset, .unset, .unset, .unset, .unset]) (S' := []) rfl ?_
  refine G.seg [(13, .iload_n 1, 1), (14, .sipush 255, 3), (17, .iand, 1), (18, .i2c, 1), (19, .istore 5, 2)] (by decide +kernel) (pc' := 21) (L' := #[.val (.int xa), .val (.int ya), .val (.int za), .val (.int ((xa &&& (3 : Int32)) % (3 : Int32))), .val (.int ((XT.ushr xa (2 : Int32)) &&& (3 : Int32))), .val (.int ((ya &&& (255 : Int32)).toUInt32.toUInt16.toUInt32.toInt32)), .unset, .unset, .unset, .unset, .unset, .unset, .unset, .unset, .unset, .unset]) (S' := []) rfl ?_
  refine G.seg [(21, .iload_n 1, 1), (22, .bipush 8, 2), (24, .iushr, 1), (25, .sipush 255, 3), (28, .iand, 1), (29, .i2c, 1), (30, .istore 6, 2)] (by decide +kernel) (pc' := 32) (L' := #[.val (.int xa), .val (.int ya), .val (.int za), .val (.int ((xa &&& (3 : Int32)) % (3 : Int32))), .val (.int ((XT.ushr xa (2 : Int32)) &&& (3 : Int32))), .val (.int ((ya &&& (255 : Int32)).toUInt32.toUInt16.toUInt32.toInt32)), .val (.int (((XT.ushr ya (8 : Int32)) &&& (255 : Int32)).toUInt32.toUInt16.toUInt32.toInt32)), .unset, .unset, .unset, .unset, .unset, .unset, .unset, .unset, .unset]) (S' := []) rfl ?_
  refine G.seg [(32, .iload_n 2, 1), (33, .sipush 255, 3), (36, .iand, 1), (37, .i2c, 1), (38, .istore 7, 2)] (by decide +kernel) (pc' := 40) (L' := #[.val (.int xa), .val (.int ya), .val (.int za), .val (.int ((xa &&& (3 : Int32)) % (3 : Int32))), .val (.int ((XT.ushr xa (2 : Int32)) &&& (3 : Int32))), .val (.int ((ya &&& (255 : Int32)).toUInt32.toUInt16.toUInt32.toInt32)), .val (.int (((XT.ushr ya (8 : Int32)) &&& (255 : Int32)).toUInt32.toUInt16.toUInt32.toInt32)), .val (.int ((za &&& (255 : Int32)).toUInt32.toUInt16.toUInt32.toInt32)), .unset, .unset, .unset, .unset, .unset, .unset, .unset, .unset]) (S' := []) rfl ?_
  refine G.seg [(40, .iload_n 2, 1), (41, .bipush 8, 2), (43, .iushr, 1), (44, .sipush 255, 3), (47, .iand, 1), (48, .i2c, 1), (49, .istore 8, 2)] (by decide +kernel) (pc' := 51) (L' := #[.val (.int xa), .val (.int ya), .val (.int za), .val (.int ((xa &&& (3 : Int32)) % (3 : Int32))), .val (.int ((XT.ushr xa (2 : Int32)) &&& (3 : Int32))), .val (.int ((ya &&& (255 : Int32)).toUInt32.toUInt16.toUInt32.toInt32)), .val (.int (((XT.ushr ya (8 : Int32)) &&& (255 : Int32)).toUInt32.toUInt16.toUInt32.toInt32)), .val (.int ((za &&& (255 : Int32)).toUInt32.toUInt16.toUInt32.toInt32)), .val (.int (((XT.ushr za (8 : Int32)) &&& (255 : Int32)).toUInt32.toUInt16.toUInt32.toInt32)), .unset, .unset, .unset, .unset, .unset, .unset, .unset]) (S' := []) rfl ?_
  refine G.seg [(51, .iload_n 2, 1), (52, .bipush 16, 2), (54, .iushr, 1), (55, .sipush 255, 3), (58, .iand, 1), (59, .i2c, 1), (60, .istore 9, 2)] (by decide +kernel) (pc' := 62) (L' := #[.val (.int xa), .val (.int ya), .val (.int za), .val (.int ((xa &&& (3 : Int32)) % (3 : Int32))), .val (.int ((XT.ushr xa (2 : Int32)) &&& (3 : Int32))), .val (.int ((ya &&& (255 : Int32)).toUInt32.toUInt16.toUInt32.toInt32)), .val (.int (((XT.ushr ya (8 : Int32)) &&& (255 : Int32)).toUInt32.toUInt16.toUInt32.toInt32)), .val (.int ((za &&& (255 : Int32)).toUInt32.toUInt16.toUInt32.toInt32)), .val (.int (((XT.ushr za (8 : Int32)) &&& (255 : Int32)).toUInt32.toUInt16.toUInt32.toInt32)), .val (.int (((XT.ushr za (16 : Int32)) &&& (255 : Int32)).toUInt32.toUInt16.toUInt32.toInt32)), .unset, .unset, .unset, .unset, .unset, .unset]) (S' := []) rfl ?_
  refine G.seg [(62, .iload_n 3, 1), (63, .iload 5, 2), (65, .iload 6, 2), (67, .iconst 0, 1)] (by decide +kernel) (pc' := 68) (L' := #[.val (.int xa), .val (.int ya), .val (.int za), .val (.int ((xa &&& (3 : Int32)) % (3 : Int32))), .val (.int ((XT.ushr xa (2 : Int32)) &&& (3 : Int32))), .val (.int ((ya &&& (255 : Int32)).toUInt32.toUInt16.toUInt32.toInt32)), .val (.int (((XT.ushr ya (8 : Int32)) &&& (255 : Int32)).toUInt32.toUInt16.toUInt32.toInt32)), .val (.int ((za &&& (255 : Int32)).toUInt32.toUInt16.toUInt32.toInt32)), .val (.int (((XT.ushr za (8 : Int32)) &&& (255 : Int32)).toUInt32.toUInt16.toUInt32.toInt32)), .val (.int (((XT.ushr za (16 : Int32)) &&& (255 : Int32)).toUInt32.toUInt16.toUInt32.toInt32)), .unset, .unset, .unset, .unset, .unset, .unset]) (S' := [.int (0 : Int32), .int (((XT.ushr ya (8 : Int32)) &&& (255 : Int32)).toUInt32.toUInt16.toUInt32.toInt32), .int ((ya &&& (255 : Int32)).toUInt32.toUInt16.toUInt32.toInt32), .int ((xa &&& (3 : Int32)) % (3 : Int32))]) rfl ?_
  have hp := and3rem3 xa
  have hn := and3 (XT.ushr xa 2)
  have hp0 : b8 _ := b8_ci (b8_and ya)
  have hp1 : b8 _ := b8_ci (b8_and (XT.ushr ya 8))
  have he0 : b8 _ := b8_ci (b8_and za)
  have he1 : b8 _ := b8_ci (b8_and (XT.ushr za 8))
  have he2 : b8 _ := b8_ci (b8_and (XT.ushr za 16))
  generalize ggp : (xa &&& (3 : Int32)) % (3 : Int32) = p at hp ⊢
  generalize ggn : (XT.ushr xa (2 : Int32)) &&& (3 : Int32) = n at hn ⊢
  generalize ggp0 : (ya &&& (255 : Int32)).toUInt32.toUInt16.toUInt32.toInt32 = p0 at hp0 ⊢
  generalize ggp1 : ((XT.ushr ya (8 : Int32)) &&& (255 : Int32)).toUInt32.toUInt16.toUInt32.toInt32 = p1 at hp1 ⊢
  generalize gge0 : (za &&& (255 : Int32)).toUInt32.toUInt16.toUInt32.toInt32 = e0 at he0 ⊢
  generalize gge1 : ((XT.ushr za (8 : Int32)) &&& (255 : Int32)).toUInt32.toUInt16.toUInt32.toInt32 = e1 at he1 ⊢
  generalize gge2 : ((XT.ushr za (16 : Int32)) &&& (255 : Int32)).toUInt32.toUInt16.toUInt32.toInt32 = e2 at he2 ⊢
  refine G.static (y := ⟨"com/example/tidy_drawings/tidydrawings/HtmlClosePinLaw", "str", "(ICCC)Ljava/lang/String;"⟩) (argsL := [.int p, .int p0, .int p1, .int (0 : Int32)]) (rest := []) (W := 0) (by decide +kernel) (tw 0 rfl) (tw 1 rfl) (tw 2 rfl) (tw 3 rfl) (by decide) ((strC l Z a0 n0 h p p0 p1 0 hp0 hp1 ⟨by decide, by decide⟩ hCS).pays (tw 3 rfl) (tw 2 rfl) (lb rfl) (lb rfl)) (lenOf pd24 rfl) rfl (Nat.le_of_eq rfl) rfl (lb rfl) (lb rfl) ?_
  rintro _ h1 ⟨s1, rfl, K1, G1, F1⟩
  refine G.seg [(71, .astore 10, 2)] (by decide +kernel) (pc' := 73) (L' := #[.val (.int xa), .val (.int ya), .val (.int za), .val (.int p), .val (.int n), .val (.int p0), .val (.int p1), .val (.int e0), .val (.int e1), .val (.int e2), .val (.ref s1), .unset, .unset, .unset, .unset, .unset]) (S' := []) rfl ?_
  refine G.seg [(73, .iload 4, 2), (75, .iload 7, 2), (77, .iload 8, 2), (79, .iload 9, 2)] (by decide +kernel) (pc' := 81) (L' := #[.val (.int xa), .val (.int ya), .val (.int za), .val (.int p), .val (.int n), .val (.int p0), .val (.int p1), .val (.int e0), .val (.int e1), .val (.int e2), .val (.ref s1), .unset, .unset, .unset, .unset, .unset]) (S' := [.int e2, .int e1, .int e0, .int n]) rfl ?_
  refine G.static (y := ⟨"com/example/tidy_drawings/tidydrawings/HtmlClosePinLaw", "str", "(ICCC)Ljava/lang/String;"⟩) (argsL := [.int n, .int e0, .int e1, .int e2]) (rest := []) (W := 0) (by decide +kernel) (tw 0 rfl) (tw 1 rfl) (tw 2 rfl) (tw 3 rfl) (by decide) ((strC l Z a0 n0 h1 n e0 e1 e2 he0 he1 he2 hCS).pays (tw 3 rfl) (tw 2 rfl) (lb rfl) (lb rfl)) (lenOf pd24 rfl) rfl (Nat.le_of_eq rfl) rfl (lb rfl) (lb rfl) ?_
  rintro _ h2 ⟨s2, rfl, K2, G2, F2⟩
  refine G.seg [(84, .astore 11, 2)] (by decide +kernel) (pc' := 86) (L' := #[.val (.int xa), .val (.int ya), .val (.int za), .val (.int p), .val (.int n), .val (.int p0), .val (.int p1), .val (.int e0), .val (.int e1), .val (.int e2), .val (.ref s1), .val (.ref s2), .unset, .unset, .unset, .unset]) (S' := []) rfl ?_
  refine G.new (by decide +kernel) (tw 26 rfl) (tw 27 rfl) (tw 28 rfl) (lb rfl) (lb rfl) ?_
  intro h3 t g3 n3 K3 E3 D3
  refine G.seg [(89, .dup, 1)] (by decide +kernel) (pc' := 90) (L' := #[.val (.int xa), .val (.int ya), .val (.int za), .val (.int p), .val (.int n), .val (.int p0), .val (.int p1), .val (.int e0), .val (.int e1), .val (.int e2), .val (.ref s1), .val (.ref s2), .unset, .unset, .unset, .unset]) (S' := [.ref t, .ref t]) rfl ?_
  refine G.special (y := ⟨"com/example/tidy_drawings/tidydrawings/Html", "<init>", "()V"⟩) (a := t) (argsL := []) (rest := [.ref t]) (W := 1) rfl (by decide +kernel) (tw 29 rfl) (tw 30 rfl) (tw 31 rfl) (by decide) ((hinC l Z a0 n0 h3 t n3 E3 (D3 (Or.inr (tw 52 rfl)) (ty := .object "java/lang/StringBuilder") (by decide)) hCS).pays (tw 31 rfl) (tw 28 rfl) (lb rfl) (lb rfl)) (lenOf pd18 rfl) rfl (Nat.le_of_eq rfl) rfl (lb rfl) (lb rfl) ?_
  rintro _ h4 ⟨rfl, sb, b, kb, Kt, T0⟩
  have KT : Keep h2 h4 [] := K3.trans Kt (allS (Or.inr (Nat.le_of_eq g3.symm)) all0)
  have S1 := (F1.keep0 K2).keep0 KT
  have S2 := F2.keep0 KT
  refine G.seg [(93, .astore 12, 2)] (by decide +kernel) (pc' := 95) (L' := #[.val (.int xa), .val (.int ya), .val (.int za), .val (.int p), .val (.int n), .val (.int p0), .val (.int p1), .val (.int e0), .val (.int e1), .val (.int e2), .val (.ref s1), .val (.ref s2), .val (.ref t), .unset, .unset, .unset]) (S' := []) rfl ?_
  refine G.seg [(95, .iload_n 3, 1)] (by decide +kernel) (pc' := 96) (L' := #[.val (.int xa), .val (.int ya), .val (.int za), .val (.int p), .val (.int n), .val (.int p0), .val (.int p1), .val (.int e0), .val (.int e1), .val (.int e2), .val (.ref s1), .val (.ref s2), .val (.ref t), .unset, .unset, .unset]) (S' := [.int p]) rfl ?_
  obtain ⟨ol1, ol2, ol3, ol4⟩ := out_len (p0 := p0) (p1 := p1) (e0 := e0) (e1 := e1) (e2 := e2) hp hn
  have m1 := mkl3 p p0 p1 0
  have m2 := mkl3 n e0 e1 e2
  refine G.join (fun q : Heap => HT Z n0 q t sb b kb (mkL p p0 p1 0) ∧ Str Z q s2 (mkL n e0 e1 e2)) (fun q => (q, 11, 49, 107, #[.val (.int xa), .val (.int ya), .val (.int za), .val (.int p), .val (.int n), .val (.int p0), .val (.int p1), .val (.int e0), .val (.int e1), .val (.int e2), .val (.ref s1), .val (.ref s2), .val (.ref t), .unset, .unset, .unset], [])) ?_ ?_
  · intro J
    refine G.ifeq (o := (11)) (pc' := 107) (by decide +kernel) (by decide) rfl ?_ ?_
    · intro q5
      exact J h4 ⟨(by rw [show mkL p p0 p1 0 = [] from by rw [mkL, if_pos q5]]; exact T0), S2⟩
    · intro q5
      refine G.seg [(99, .aload 12, 2), (101, .aload 10, 2)] (by decide +kernel) (pc' := 103) (L' := #[.val (.int xa), .val (.int ya), .val (.int za), .val (.int p), .val (.int n), .val (.int p0), .val (.int p1), .val (.int e0), .val (.int e1), .val (.int e2), .val (.ref s1), .val (.ref s2), .val (.ref t), .unset, .unset, .unset]) (S' := [.ref s1, .ref t]) rfl ?_
      refine G.virtual (y := ⟨"com/example/tidy_drawings/tidydrawings/Html", "markup", "(Ljava/lang/String;)Lcom/example/tidy_drawings/tidydrawings/Html;"⟩) (C := "com/example/tidy_drawings/tidydrawings/Html") (a := t) (argsL := [.ref s1]) (rest := []) (W := 0) (by decide +kernel) (tw 209 rfl) (tw 210 rfl) (tw 212 rfl) (tw 211 rfl) (by decide) T0.1 ((markC l Z a0 n0 h4 t sb b kb [] T0 s1 (mkL p p0 p1 0) S1 hCS (by simp; omega)).pays (tw 213 rfl) (tw 28 rfl) (lb rfl) (lb rfl)) (lenOf pd25 rfl) rfl (Nat.le_of_eq rfl) rfl (lb rfl) (lb rfl) ?_
      rintro _ h6 ⟨rfl, K6, T6⟩
      refine G.seg [(106, .pop, 1)] (by decide +kernel) (pc' := 107) (L' := #[.val (.int xa), .val (.int ya), .val (.int za), .val (.int p), .val (.int n), .val (.int p0), .val (.int p1), .val (.int e0), .val (.int e1), .val (.int e2), .val (.ref s1), .val (.ref s2), .val (.ref t), .unset, .unset, .unset]) (S' := []) rfl ?_
      exact J h6 ⟨T6, S2.keepSB T0.2.2.1 K6 (by omega) (hw _ (tw 34 rfl)) (hw _ (tw 5 rfl))⟩
  rintro hj ⟨T1, S3⟩
  dsimp only
  refine G.seg [(107, .aload 12, 2), (109, .aload 11, 2)] (by decide +kernel) (pc' := 111) (L' := #[.val (.int xa), .val (.int ya), .val (.int za), .val (.int p), .val (.int n), .val (.int p0), .val (.int p1), .val (.int e0), .val (.int e1), .val (.int e2), .val (.ref s1), .val (.ref s2), .val (.ref t), .unset, .unset, .unset]) (S' := [.ref s2, .ref t]) rfl ?_
  refine G.virtual (y := ⟨"com/example/tidy_drawings/tidydrawings/Html", "close", "(Ljava/lang/String;)Lcom/example/tidy_drawings/tidydrawings/Html;"⟩) (C := "com/example/tidy_drawings/tidydrawings/Html") (a := t) (argsL := [.ref s2]) (rest := []) (W := 0) (by decide +kernel) (tw 53 rfl) (tw 54 rfl) (tw 56 rfl) (tw 55 rfl) (by decide) T1.1 ((closeC l Z a0 n0 hj t sb b kb _ T1 s2 _ S3 hCS ol4).pays (tw 57 rfl) (tw 28 rfl) (lb rfl) (lb rfl)) (lenOf pd25 rfl) rfl (Nat.le_of_eq rfl) rfl (lb rfl) (lb rfl) ?_
  rintro _ h7 ⟨rfl, K7, T7⟩
  refine G.seg [(114, .astore 13, 2)] (by decide +kernel) (pc' := 116) (L' := #[.val (.int xa), .val (.int ya), .val (.int za), .val (.int p), .val (.int n), .val (.int p0), .val (.int p1), .val (.int e0), .val (.int e1), .val (.int e2), .val (.ref s1), .val (.ref s2), .val (.ref t), .val (.ref t), .unset, .unset]) (S' := []) rfl ?_
  refine G.seg [(116, .aload 13, 2), (118, .aload 12, 2)] (by decide +kernel) (pc' := 120) (L' := #[.val (.int xa), .val (.int ya), .val (.int za), .val (.int p), .val (.int n), .val (.int p0), .val (.int p1), .val (.int e0), .val (.int e1), .val (.int e2), .val (.ref s1), .val (.ref s2), .val (.ref t), .val (.ref t), .unset, .unset]) (S' := [.ref t, .ref t]) rfl ?_
  refine G.aceq (o := (5)) (pc' := 125) rfl rfl (by decide +kernel) (by decide) rfl ?_ (fun q8 => absurd rfl q8)
  intro _
  refine G.seg [(125, .aload 12, 2)] (by decide +kernel) (pc' := 127) (L' := #[.val (.int xa), .val (.int ya), .val (.int za), .val (.int p), .val (.int n), .val (.int p0), .val (.int p1), .val (.int e0), .val (.int e1), .val (.int e2), .val (.ref s1), .val (.ref s2), .val (.ref t), .val (.ref t), .unset, .unset]) (S' := [.ref t]) rfl ?_
  refine G.virtual (y := ⟨"com/example/tidy_drawings/tidydrawings/Html", "toString", "()Ljava/lang/String;"⟩) (C := "com/example/tidy_drawings/tidydrawings/Html") (a := t) (argsL := []) (rest := []) (W := 0) (by decide +kernel) (tw 125 rfl) (tw 126 rfl) (tw 128 rfl) (tw 127 rfl) (by decide) T7.1 ((htosC l Z a0 n0 h7 t sb b kb _ T7 ol2 ol3 hCS).pays (tw 129 rfl) (tw 28 rfl) (lb rfl) (lb rfl)) (lenOf pd21 rfl) rfl (Nat.le_of_eq rfl) rfl (lb rfl) (lb rfl) ?_
  rintro _ h9 ⟨o, rfl, K9, G9, F9⟩
  refine G.seg [(130, .astore 14, 2)] (by decide +kernel) (pc' := 132) (L' := #[.val (.int xa), .val (.int ya), .val (.int za), .val (.int p), .val (.int n), .val (.int p0), .val (.int p1), .val (.int e0), .val (.int e1), .val (.int e2), .val (.ref s1), .val (.ref s2), .val (.ref t), .val (.ref t), .val (.ref o), .unset]) (S' := []) rfl ?_
  refine G.seg [(132, .iload_n 3, 1), (133, .iload 4, 2), (135, .iadd, 1), (136, .iconst 3, 1), (137, .iadd, 1), (138, .istore 15, 2)] (by decide +kernel) (pc' := 140) (L' := #[.val (.int xa), .val (.int ya), .val (.int za), .val (.int p), .val (.int n), .val (.int p0), .val (.int p1), .val (.int e0), .val (.int e1), .val (.int e2), .val (.ref s1), .val (.ref s2), .val (.ref t), .val (.ref t), .val (.ref o), .val (.int ((p + n) + (3 : Int32)))]) (S' := []) rfl ?_
  refine G.seg [(140, .aload 14, 2)] (by decide +kernel) (pc' := 142) (L' := #[.val (.int xa), .val (.int ya), .val (.int za), .val (.int p), .val (.int n), .val (.int p0), .val (.int p1), .val (.int e0), .val (.int e1), .val (.int e2), .val (.ref s1), .val (.ref s2), .val (.ref t), .val (.ref t), .val (.ref o), .val (.int ((p + n) + (3 : Int32)))]) (S' := [.ref o]) rfl ?_
  have FO : Str Z h9 o (outL p n p0 p1 e0 e1 e2) := F9
  refine G.virtual (y := ⟨"java/lang/String", "length", "()I"⟩) (C := "java/lang/String") (a := o) (argsL := []) (rest := []) (W := 0) (by decide +kernel) (tw 171 rfl) (tw 70 rfl) (tw 72 rfl) (tw 71 rfl) (by decide) FO.1 (lenB swL (tw 5 rfl) FO hCS (lb rfl) (lb rfl)) (lenOf pd8 rfl) rfl (Nat.le_of_eq rfl) rfl (lb rfl) (lb rfl) ?_
  rintro _ h10 ⟨rfl, rfl⟩
  refine G.seg [(145, .iload 15, 2)] (by decide +kernel) (pc' := 147) (L' := #[.val (.int xa), .val (.int ya), .val (.int za), .val (.int p), .val (.int n), .val (.int p0), .val (.int p1), .val (.int e0), .val (.int e1), .val (.int e2), .val (.ref s1), .val (.ref s2), .val (.ref t), .val (.ref t), .val (.ref o), .val (.int ((p + n) + (3 : Int32)))]) (S' := [.int ((p + n) + (3 : Int32)), .int (Int32.ofNat (outL p n p0 p1 e0 e1 e2).length)]) rfl ?_
  refine G.iceq (o := (5)) (pc' := 152) (by decide +kernel) (by decide) rfl ?_ (fun q11 => absurd ol1 q11)
  intro _
  refine G.seg [(152, .aload 14, 2), (154, .iconst 0, 1), (155, .iload 15, 2), (157, .iload_n 3, 1), (158, .iload 4, 2), (160, .iload 5, 2), (162, .iload 6, 2), (164, .iload 7, 2), (166, .iload 8, 2), (168, .iload 9, 2)] (by decide +kernel) (pc' := 170) (L' := #[.val (.int xa), .val (.int ya), .val (.int za), .val (.int p), .val (.int n), .val (.int p0), .val (.int p1), .val (.int e0), .val (.int e1), .val (.int e2), .val (.ref s1), .val (.ref s2), .val (.ref t), .val (.ref t), .val (.ref o), .val (.int ((p + n) + (3 : Int32)))]) (S' := [.int e2, .int e1, .int e0, .int p1, .int p0, .int n, .int p, .int ((p + n) + (3 : Int32)), .int (0 : Int32), .ref o]) rfl ?_
  refine G.static (y := ⟨"com/example/tidy_drawings/tidydrawings/HtmlClosePinLaw", "at", "(Ljava/lang/String;IIIICCCCC)Z"⟩) (argsL := [.ref o, .int (0 : Int32), .int ((p + n) + (3 : Int32)), .int p, .int n, .int p0, .int p1, .int e0, .int e1, .int e2]) (rest := []) (W := 0) (by decide +kernel) (tw 172 rfl) (tw 173 rfl) (tw 2 rfl) (tw 174 rfl) (by decide) ((atC l Z a0 n0 h10 o (outL p n p0 p1 e0 e1 e2) FO hCS hFM 0 (p + n + 3) p n p0 p1 e0 e1 e2 hp0 hp1 he0 he1 he2 (at_ok hp hn 0 (by decide))).pays (tw 174 rfl) (tw 2 rfl) (lb rfl) (lb rfl)) (lenOf pd26 rfl) rfl (Nat.le_of_eq rfl) rfl (lb rfl) (lb rfl) ?_
  rintro _ h12 ⟨rfl, rfl⟩
  refine G.ifeq (o := (177)) (pc' := 350) (by decide +kernel) (by decide) rfl (fun q13 => absurd q13 (by decide)) ?_
  intro _
  refine G.seg [(176, .aload 14, 2), (178, .iconst 1, 1), (179, .iload 15, 2), (181, .iload_n 3, 1), (182, .iload 4, 2), (184, .iload 5, 2), (186, .iload 6, 2), (188, .iload 7, 2), (190, .iload 8, 2), (192, .iload 9, 2)] (by decide +kernel) (pc' := 194) (L' := #[.val (.int xa), .val (.int ya), .val (.int za), .val (.int p), .val (.int n), .val (.int p0), .val (.int p1), .val (.int e0), .val (.int e1), .val (.int e2), .val (.ref s1), .val (.ref s2), .val (.ref t), .val (.ref t), .val (.ref o), .val (.int ((p + n) + (3 : Int32)))]) (S' := [.int e2, .int e1, .int e0, .int p1, .int p0, .int n, .int p, .int ((p + n) + (3 : Int32)), .int (1 : Int32), .ref o]) rfl ?_
  refine G.static (y := ⟨"com/example/tidy_drawings/tidydrawings/HtmlClosePinLaw", "at", "(Ljava/lang/String;IIIICCCCC)Z"⟩) (argsL := [.ref o, .int (1 : Int32), .int ((p + n) + (3 : Int32)), .int p, .int n, .int p0, .int p1, .int e0, .int e1, .int e2]) (rest := []) (W := 0) (by decide +kernel) (tw 172 rfl) (tw 173 rfl) (tw 2 rfl) (tw 174 rfl) (by decide) ((atC l Z a0 n0 h12 o (outL p n p0 p1 e0 e1 e2) FO hCS hFM 1 (p + n + 3) p n p0 p1 e0 e1 e2 hp0 hp1 he0 he1 he2 (at_ok hp hn 1 (by decide))).pays (tw 174 rfl) (tw 2 rfl) (lb rfl) (lb rfl)) (lenOf pd26 rfl) rfl (Nat.le_of_eq rfl) rfl (lb rfl) (lb rfl) ?_
  rintro _ h14 ⟨rfl, rfl⟩
  refine G.ifeq (o := (153)) (pc' := 350) (by decide +kernel) (by decide) rfl (fun q15 => absurd q15 (by decide)) ?_
  intro _
  refine G.seg [(200, .aload 14, 2), (202, .iconst 2, 1), (203, .iload 15, 2), (205, .iload_n 3, 1), (206, .iload 4, 2), (208, .iload 5, 2), (210, .iload 6, 2), (212, .iload 7, 2), (214, .iload 8, 2), (216, .iload 9, 2)] (by decide +kernel) (pc' := 218) (L' := #[.val (.int xa), .val (.int ya), .val (.int za), .val (.int p), .val (.int n), .val (.int p0), .val (.int p1), .val (.int e0), .val (.int e1), .val (.int e2), .val (.ref s1), .val (.ref s2), .val (.ref t), .val (.ref t), .val (.ref o), .val (.int ((p + n) + (3 : Int32)))]) (S' := [.int e2, .int e1, .int e0, .int p1, .int p0, .int n, .int p, .int ((p + n) + (3 : Int32)), .int (2 : Int32), .ref o]) rfl ?_
  refine G.static (y := ⟨"com/example/tidy_drawings/tidydrawings/HtmlClosePinLaw", "at", "(Ljava/lang/String;IIIICCCCC)Z"⟩) (argsL := [.ref o, .int (2 : Int32), .int ((p + n) + (3 : Int32)), .int p, .int n, .int p0, .int p1, .int e0, .int e1, .int e2]) (rest := []) (W := 0) (by decide +kernel) (tw 172 rfl) (tw 173 rfl) (tw 2 rfl) (tw 174 rfl) (by decide) ((atC l Z a0 n0 h14 o (outL p n p0 p1 e0 e1 e2) FO hCS hFM 2 (p + n + 3) p n p0 p1 e0 e1 e2 hp0 hp1 he0 he1 he2 (at_ok hp hn 2 (by decide))).pays (tw 174 rfl) (tw 2 rfl) (lb rfl) (lb rfl)) (lenOf pd26 rfl) rfl (Nat.le_of_eq rfl) rfl (lb rfl) (lb rfl) ?_
  rintro _ h16 ⟨rfl, rfl⟩
  refine G.ifeq (o := (129)) (pc' := 350) (by decide +kernel) (by decide) rfl (fun q17 => absurd q17 (by decide)) ?_
  intro _
  refine G.seg [(224, .aload 14, 2), (226, .iconst 3, 1), (227, .iload 15, 2), (229, .iload_n 3, 1), (230, .iload 4, 2), (232, .iload 5, 2), (234, .iload 6, 2), (236, .iload 7, 2), (238, .iload 8, 2), (240, .iload 9, 2)] (by decide +kernel) (pc' := 242) (L' := #[.val (.int xa), .val (.int ya), .val (.int za), .val (.int p), .val (.int n), .val (.int p0), .val (.int p1), .val (.int e0), .val (.int e1), .val (.int e2), .val (.ref s1), .val (.ref s2), .val (.ref t), .val (.ref t), .val (.ref o), .val (.int ((p + n) + (3 : Int32)))]) (S' := [.int e2, .int e1, .int e0, .int p1, .int p0, .int n, .int p, .int ((p + n) + (3 : Int32)), .int (3 : Int32), .ref o]) rfl ?_
  refine G.static (y := ⟨"com/example/tidy_drawings/tidydrawings/HtmlClosePinLaw", "at", "(Ljava/lang/String;IIIICCCCC)Z"⟩) (argsL := [.ref o, .int (3 : Int32), .int ((p + n) + (3 : Int32)), .int p, .int n, .int p0, .int p1, .int e0, .int e1, .int e2]) (rest := []) (W := 0) (by decide +kernel) (tw 172 rfl) (tw 173 rfl) (tw 2 rfl) (tw 174 rfl) (by decide) ((atC l Z a0 n0 h16 o (outL p n p0 p1 e0 e1 e2) FO hCS hFM 3 (p + n + 3) p n p0 p1 e0 e1 e2 hp0 hp1 he0 he1 he2 (at_ok hp hn 3 (by decide))).pays (tw 174 rfl) (tw 2 rfl) (lb rfl) (lb rfl)) (lenOf pd26 rfl) rfl (Nat.le_of_eq rfl) rfl (lb rfl) (lb rfl) ?_
  rintro _ h18 ⟨rfl, rfl⟩
  refine G.ifeq (o := (105)) (pc' := 350) (by decide +kernel) (by decide) rfl (fun q19 => absurd q19 (by decide)) ?_
  intro _
  refine G.seg [(248, .aload 14, 2), (250, .iconst 4, 1), (251, .iload 15, 2), (253, .iload_n 3, 1), (254, .iload 4, 2), (256, .iload 5, 2), (258, .iload 6, 2), (260, .iload 7, 2), (262, .iload 8, 2), (264, .iload 9, 2)] (by decide +kernel) (pc' := 266) (L' := #[.val (.int xa), .val (.int ya), .val (.int za), .val (.int p), .val (.int n), .val (.int p0), .val (.int p1), .val (.int e0), .val (.int e1), .val (.int e2), .val (.ref s1), .val (.ref s2), .val (.ref t), .val (.ref t), .val (.ref o), .val (.int ((p + n) + (3 : Int32)))]) (S' := [.int e2, .int e1, .int e0, .int p1, .int p0, .int n, .int p, .int ((p + n) + (3 : Int32)), .int (4 : Int32), .ref o]) rfl ?_
  refine G.static (y := ⟨"com/example/tidy_drawings/tidydrawings/HtmlClosePinLaw", "at", "(Ljava/lang/String;IIIICCCCC)Z"⟩) (argsL := [.ref o, .int (4 : Int32), .int ((p + n) + (3 : Int32)), .int p, .int n, .int p0, .int p1, .int e0, .int e1, .int e2]) (rest := []) (W := 0) (by decide +kernel) (tw 172 rfl) (tw 173 rfl) (tw 2 rfl) (tw 174 rfl) (by decide) ((atC l Z a0 n0 h18 o (outL p n p0 p1 e0 e1 e2) FO hCS hFM 4 (p + n + 3) p n p0 p1 e0 e1 e2 hp0 hp1 he0 he1 he2 (at_ok hp hn 4 (by decide))).pays (tw 174 rfl) (tw 2 rfl) (lb rfl) (lb rfl)) (lenOf pd26 rfl) rfl (Nat.le_of_eq rfl) rfl (lb rfl) (lb rfl) ?_
  rintro _ h20 ⟨rfl, rfl⟩
  refine G.ifeq (o := (81)) (pc' := 350) (by decide +kernel) (by decide) rfl (fun q21 => absurd q21 (by decide)) ?_
  intro _
  refine G.seg [(272, .aload 14, 2), (274, .iconst 5, 1), (275, .iload 15, 2), (277, .iload_n 3, 1), (278, .iload 4, 2), (280, .iload 5, 2), (282, .iload 6, 2), (284, .iload 7, 2), (286, .iload 8, 2), (288, .iload 9, 2)] (by decide +kernel) (pc' := 290) (L' := #[.val (.int xa), .val (.int ya), .val (.int za), .val (.int p), .val (.int n), .val (.int p0), .val (.int p1), .val (.int e0), .val (.int e1), .val (.int e2), .val (.ref s1), .val (.ref s2), .val (.ref t), .val (.ref t), .val (.ref o), .val (.int ((p + n) + (3 : Int32)))]) (S' := [.int e2, .int e1, .int e0, .int p1, .int p0, .int n, .int p, .int ((p + n) + (3 : Int32)), .int (5 : Int32), .ref o]) rfl ?_
  refine G.static (y := ⟨"com/example/tidy_drawings/tidydrawings/HtmlClosePinLaw", "at", "(Ljava/lang/String;IIIICCCCC)Z"⟩) (argsL := [.ref o, .int (5 : Int32), .int ((p + n) + (3 : Int32)), .int p, .int n, .int p0, .int p1, .int e0, .int e1, .int e2]) (rest := []) (W := 0) (by decide +kernel) (tw 172 rfl) (tw 173 rfl) (tw 2 rfl) (tw 174 rfl) (by decide) ((atC l Z a0 n0 h20 o (outL p n p0 p1 e0 e1 e2) FO hCS hFM 5 (p + n + 3) p n p0 p1 e0 e1 e2 hp0 hp1 he0 he1 he2 (at_ok hp hn 5 (by decide))).pays (tw 174 rfl) (tw 2 rfl) (lb rfl) (lb rfl)) (lenOf pd26 rfl) rfl (Nat.le_of_eq rfl) rfl (lb rfl) (lb rfl) ?_
  rintro _ h22 ⟨rfl, rfl⟩
  refine G.ifeq (o := (57)) (pc' := 350) (by decide +kernel) (by decide) rfl (fun q23 => absurd q23 (by decide)) ?_
  intro _
  refine G.seg [(296, .aload 14, 2), (298, .bipush 6, 2), (300, .iload 15, 2), (302, .iload_n 3, 1), (303, .iload 4, 2), (305, .iload 5, 2), (307, .iload 6, 2), (309, .iload 7, 2), (311, .iload 8, 2), (313, .iload 9, 2)] (by decide +kernel) (pc' := 315) (L' := #[.val (.int xa), .val (.int ya), .val (.int za), .val (.int p), .val (.int n), .val (.int p0), .val (.int p1), .val (.int e0), .val (.int e1), .val (.int e2), .val (.ref s1), .val (.ref s2), .val (.ref t), .val (.ref t), .val (.ref o), .val (.int ((p + n) + (3 : Int32)))]) (S' := [.int e2, .int e1, .int e0, .int p1, .int p0, .int n, .int p, .int ((p + n) + (3 : Int32)), .int (6 : Int32), .ref o]) rfl ?_
  refine G.static (y := ⟨"com/example/tidy_drawings/tidydrawings/HtmlClosePinLaw", "at", "(Ljava/lang/String;IIIICCCCC)Z"⟩) (argsL := [.ref o, .int (6 : Int32), .int ((p + n) + (3 : Int32)), .int p, .int n, .int p0, .int p1, .int e0, .int e1, .int e2]) (rest := []) (W := 0) (by decide +kernel) (tw 172 rfl) (tw 173 rfl) (tw 2 rfl) (tw 174 rfl) (by decide) ((atC l Z a0 n0 h22 o (outL p n p0 p1 e0 e1 e2) FO hCS hFM 6 (p + n + 3) p n p0 p1 e0 e1 e2 hp0 hp1 he0 he1 he2 (at_ok hp hn 6 (by decide))).pays (tw 174 rfl) (tw 2 rfl) (lb rfl) (lb rfl)) (lenOf pd26 rfl) rfl (Nat.le_of_eq rfl) rfl (lb rfl) (lb rfl) ?_
  rintro _ h24 ⟨rfl, rfl⟩
  refine G.ifeq (o := (32)) (pc' := 350) (by decide +kernel) (by decide) rfl (fun q25 => absurd q25 (by decide)) ?_
  intro _
  refine G.seg [(321, .aload 14, 2), (323, .bipush 7, 2), (325, .iload 15, 2), (327, .iload_n 3, 1), (328, .iload 4, 2), (330, .iload 5, 2), (332, .iload 6, 2), (334, .iload 7, 2), (336, .iload 8, 2), (338, .iload 9, 2)] (by decide +kernel) (pc' := 340) (L' := #[.val (.int xa), .val (.int ya), .val (.int za), .val (.int p), .val (.int n), .val (.int p0), .val (.int p1), .val (.int e0), .val (.int e1), .val (.int e2), .val (.ref s1), .val (.ref s2), .val (.ref t), .val (.ref t), .val (.ref o), .val (.int ((p + n) + (3 : Int32)))]) (S' := [.int e2, .int e1, .int e0, .int p1, .int p0, .int n, .int p, .int ((p + n) + (3 : Int32)), .int (7 : Int32), .ref o]) rfl ?_
  refine G.static (y := ⟨"com/example/tidy_drawings/tidydrawings/HtmlClosePinLaw", "at", "(Ljava/lang/String;IIIICCCCC)Z"⟩) (argsL := [.ref o, .int (7 : Int32), .int ((p + n) + (3 : Int32)), .int p, .int n, .int p0, .int p1, .int e0, .int e1, .int e2]) (rest := []) (W := 0) (by decide +kernel) (tw 172 rfl) (tw 173 rfl) (tw 2 rfl) (tw 174 rfl) (by decide) ((atC l Z a0 n0 h24 o (outL p n p0 p1 e0 e1 e2) FO hCS hFM 7 (p + n + 3) p n p0 p1 e0 e1 e2 hp0 hp1 he0 he1 he2 (at_ok hp hn 7 (by decide))).pays (tw 174 rfl) (tw 2 rfl) (lb rfl) (lb rfl)) (lenOf pd26 rfl) rfl (Nat.le_of_eq rfl) rfl (lb rfl) (lb rfl) ?_
  rintro _ h26 ⟨rfl, rfl⟩
  refine G.ifeq (o := (7)) (pc' := 350) (by decide +kernel) (by decide) rfl (fun q27 => absurd q27 (by decide)) ?_
  intro _
  refine G.seg [(346, .iconst 1, 1), (347, .goto 4, 3)] (by decide +kernel) (pc' := 351) (L' := #[.val (.int xa), .val (.int ya), .val (.int za), .val (.int p), .val (.int n), .val (.int p0), .val (.int p1), .val (.int e0), .val (.int e1), .val (.int e2), .val (.ref s1), .val (.ref s2), .val (.ref t), .val (.ref t), .val (.ref o), .val (.int ((p + n) + (3 : Int32)))]) (S' := [.int (1 : Int32)]) rfl ?_
  exact G.retN (by decide +kernel) rfl (Or.inl rfl) rfl rfl (lb rfl) (lb rfl)

set_option maxRecDepth 65536 in
set_option maxHeartbeats 4000000 in
theorem comes_1 {Post : Tables → Env → Array Value → State → Outcome → State → Prop} (hpost : ∀ tb e args s v u, (limb_1_1.after args s (.returned v) u = true ∧ limb_1_2.after args s (.returned v) u = true ∧ True) → ReturnedEndW s (.returned v) u (Jvm.fieldLocs frame_1_writes args s ++ Jvm.arrayLocs frame_1_arrays args s ++ Jvm.staticLocs frame_1_statics s) room_1.cells room_1.slots → Post tb e args s (.returned v) u) :
    ArmFor flags0 classFile x code maxLocals ret World_1 tables_1 room_1 Calls_1 rest_1 Pre_1 Post := by
  intro l hfl _ _ p e ha hc hk s m args below hf hA hF happ hP
  obtain ⟨hcalls, hrest, hpre⟩ := hP
  obtain ⟨-, -, -, hnamed, -, -, -, hat⟩ := (Spec.applies_iff hf).mp happ
  obtain ⟨hg, hn⟩ := and_e (Cond.before_iff.mp (show (Jvm.Cond.and given_1 narrow_1).before args s = true from hpre))
  obtain ⟨hcount, hz0⟩ := and_e hg
  obtain ⟨ha0, hz1⟩ := and_e hz0
  obtain ⟨ha1, hz2⟩ := and_e hz1
  have ha2 := hz2
  obtain ⟨w0, w1, w2, rfl⟩ : ∃ w0 w1 w2 : Value, args = #[w0, w1, w2] := by
    have hs : args.size = 3 := by simpa [Cond.value, given_1] using hcount
    obtain ⟨L⟩ := args
    match L, hs with
    | [w0, w1, w2], _ => exact ⟨w0, w1, w2, rfl⟩
  obtain ⟨i0, e0⟩ := is_v ha0
  obtain rfl : w0 = (.int i0) := Option.some.inj e0
  obtain ⟨i1, e1⟩ := is_v ha1
  obtain rfl : w1 = (.int i1) := Option.some.inj e1
  obtain ⟨i2, e2⟩ := is_v ha2
  obtain rfl : w2 = (.int i2) := Option.some.inj e2
  have hw := fun d (hd : d ∈ tables_1) => atoms_spec (ws := Jvm.Cond.code x code maxLocals ret :: tables_1) hat d (List.mem_cons_of_mem _ hd)
  obtain ⟨hsets, hown0⟩ := atoms_of _ (rest_1_c_eq ▸ (show rest_1_c.before _ s = true from hrest))
  have n5 := not_v (Cond.before_iff.mp (hsets _ (List.mem_of_getElem? (i := 2) rfl)))
  obtain ⟨iC, eC⟩ := is_v (Cond.before_iff.mp (hsets _ (List.mem_of_getElem? (i := 1) rfl)))
  have hCS : CS s := ⟨iC, Sta.start eC (Or.inl (hsets _ (List.mem_of_getElem? (i := 0) rfl))), gotF (Cond.eq_ints eC (Term.int_eval (0))) n5⟩
  obtain ⟨vF, eF, rF⟩ := isR_v (Cond.before_iff.mp (hsets _ (List.mem_of_getElem? (i := 8) rfl)))
  have hFM : FM s := ⟨vF, Sta.start eF (Or.inl (hsets _ (List.mem_of_getElem? (i := 7) rfl))), rF⟩
  have hEL : EW s #[.int i0, .int i1, .int i2] consts_1 := EW.cons (hw _ (tw 58 rfl)) (by decide) (EW.cons (hw _ (tw 18 rfl)) (by decide) (EW.nil))
  have hCH : CHv s consts_1 s.vm s.heap := CHv.start hEL (fun p hp => hcalls.1 p hp) (hsets _ (List.mem_of_getElem? (i := 2) rfl)) (hw _ (tw 19 rfl)) (hw _ (tw 5 rfl))
  obtain ⟨n, o, h1, h2, h3, v, L, rfl, ⟨N, -, rfl⟩, -, hR, -⟩ := (lawC l s _ s.heap.size s.heap i0 i1 i2 hCS hFM) hEL hw (Old.start s) p e ha hc hk s m _ below hf ((Spec.applies_iff_loose hf).mp happ).1 ⟨rfl, State.Warmed39.refl s, rfl, hCH⟩ trivial
  exact ⟨n, _, h1, h2, h3, hpost _ _ _ _ _ _ ⟨Cond.after_iff.mpr rfl, Cond.after_iff.mpr (eq_i res_at (Term.int_eval (1)) rfl), trivial⟩ ⟨hR.1, hR.2.1, hR.2.2.1, (hR.2.2.2.sift fun y hy => Or.inr (N y hy)).mono (Nat.le_refl _) (Nat.le_refl _)⟩⟩
theorem main_1_1 : Claimed_1_1 := comes_1 fun _ _ _ _ _ _ h hF => ⟨h.1, hF⟩
theorem main_1_2 : Claimed_1_2 := comes_1 fun _ _ _ _ _ _ h hF => ⟨h.2.1, hF⟩
end Jvm.Pilot.@@N@@
namespace Jvm.Pilot.@@N@@
open Jvm Jvm.ClassFile Sem Op Lib Jvm.Free Jvm.Stand Jvm.Pilot.@@N@@.Jvm.D
/-! MADE BY PROGRAM (witnessworld.py) out of the Statement's table words and the real class files: 26 classes; the members and pool entries that the words name. The judged class is class 1, her method 1. -/
namespace start1
open Jvm.ClassFile
def u (s : String) : CpInfo := .utf8 (stringToUtf16 s)
/-- a pool by its gaps: so many unusable entries, then the entry; so many at the end -/
def gap : Nat → List CpInfo → List CpInfo
  | 0, r => r
  | n + 1, r => .unusable :: gap n r
def poolList (es : List (Nat × CpInfo)) (last : Nat) : List CpInfo := es.foldr (fun e r => gap e.1 (e.2 :: r)) (gap last [])
def pool (es : List (Nat × CpInfo)) (last : Nat) : Array CpInfo := ⟨poolList es last⟩
def fileOf (pool : Array CpInfo) (this : Nat) (attrs : Array Attribute := #[]) (ms : Array MethodInfo := #[]) (fl : Nat := 33) (sup : Nat := 0) (ifs : Array Nat := #[]) (fds : Array FieldInfo := #[]) : ClassFile where
  minorVersion := 0
  majorVersion := 65
  constantPool := pool
  accessFlags := fl
  thisClass := this
  superClass := sup
  interfaces := ifs
  fields := fds
  methods := ms
  attributes := attrs
def plain (name : String) (sup : Option ClassId) : Class where
  name := name
  kind := .ordinary
  loader := none
  accessFlags := 33
  super := sup
  interfaces := #[]
  cf := none
  fields := #[]
  methods := #[]
  instanceTypes := #[]
  staticTypes := #[]
  resolved := #[]
  callSites := []
  init := .initialized
  statics := none
  mirror := none

def pool0 : Array CpInfo := pool [(5, u "<init>"), (0, u "()V"), (1, .class_ 10), (1, u "java/lang/Object")] 113

def k0c0 : Code := { maxStack := 0, maxLocals := 1, code := object_method_1_code, exceptionTable := #[], attributes := #[] }
def k0m0 : Method := { name := "<init>", desc := "()V", sig := { parameters := [], returnType := none }, accessFlags := 1, code := some k0c0 }
/-- java/lang/Object -/
def k0 : Class := { plain "java/lang/Object" none with
  accessFlags := 33
  interfaces := #[]
  cf := some (fileOf pool0 8 #[] #[{ accessFlags := 1, nameIndex := 5, descriptorIndex := 6, attributes := #[] }] 33 0 #[] #[])
  fields := #[]
  methods := #[k0m0]
  instanceTypes := #[]
  staticTypes := #[]
  resolved := Array.replicate 124 none
  statics := none }

def pool1 : Array CpInfo := pool [(2, .class_ 4), (0, .nameAndType 5 6), (0, u "java/lang/Object"), (0, u "<init>"), (0, u "()V"), (0, .methodref 8 9), (0, .class_ 10), (0, .nameAndType 11 12), (0, u "com/example/tidy_drawings/tidydrawings/HtmlClosePinLaw"), (0, u "str"), (0, u "(ICCC)Ljava/lang/String;"), (0, .class_ 14), (0, u "com/example/tidy_drawings/tidydrawings/Html"), (0, .methodref 13 3), (0, .methodref 13 17), (0, .nameAndType 18 19), (0, u "markup"), (0, u "(Ljava/lang/String;)Lcom/example/tidy_drawings/tidydrawings/Html;"), (0, .methodref 13 21), (0, .nameAndType 22 19), (0, u "close"), (0, .methodref 13 24), (0, .nameAndType 25 26), (0, u "toString"), (0, u "()Ljava/lang/String;"), (0, .methodref 28 29), (0, .class_ 30), (0, .nameAndType 31 32), (0, u "java/lang/String"), (0, u "length"), (0, u "()I"), (0, .methodref 8 34), (0, .nameAndType 35 36), (0, u "at"), (0, u "(Ljava/lang/String;IIIICCCCC)Z"), (0, .methodref 28 38), (0, .nameAndType 39 40), (0, u "charAt"), (0, u "(I)C"), (0, .methodref 8 42), (0, .nameAndType 43 44), (0, u "exp"), (0, u "(IIICCCCC)C"), (0, .methodref 28 46), (0, .nameAndType 5 47), (0, u "([C)V"), (2, u "law"), (0, u "(III)Z")] 3

def k1m0 : Method := { name := "<init>", desc := "()V", sig := { parameters := [], returnType := none }, accessFlags := 1, code := none }
def k1c1 : Code := { maxStack := 10, maxLocals := 16, code := code, exceptionTable := #[], attributes := #[] }
def k1m1 : Method := { name := "law", desc := "(III)Z", sig := { parameters := [.int, .int, .int], returnType := some .boolean }, accessFlags := 9, code := some k1c1 }
def k1c2 : Code := { maxStack := 9, maxLocals := 10, code := method_3_code, exceptionTable := #[], attributes := #[] }
def k1m2 : Method := { name := "at", desc := "(Ljava/lang/String;IIIICCCCC)Z", sig := { parameters := [(.object "java/lang/String"), .int, .int, .int, .int, .char, .char, .char, .char, .char], returnType := some .boolean }, accessFlags := 10, code := some k1c2 }
def k1c3 : Code := { maxStack := 2, maxLocals := 10, code := method_4_code, exceptionTable := #[], attributes := #[] }
def k1m3 : Method := { name := "exp", desc := "(IIICCCCC)C", sig := { parameters := [.int, .int, .int, .char, .char, .char, .char, .char], returnType := some .char }, accessFlags := 10, code := some k1c3 }
def k1c4 : Code := { maxStack := 6, maxLocals := 4, code := method_5_code, exceptionTable := #[], attributes := #[] }
def k1m4 : Method := { name := "str", desc := "(ICCC)Ljava/lang/String;", sig := { parameters := [.int, .char, .char, .char], returnType := some (.object "java/lang/String") }, accessFlags := 10, code := some k1c4 }
/-- com/example/tidy_drawings/tidydrawings/HtmlClosePinLaw -/
def k1 : Class := { plain "com/example/tidy_drawings/tidydrawings/HtmlClosePinLaw" (some 0) with
  accessFlags := 49
  interfaces := #[]
  cf := some (fileOf pool1 8 #[] #[{ accessFlags := 1, nameIndex := 5, descriptorIndex := 6, attributes := #[] }, { accessFlags := 9, nameIndex := 50, descriptorIndex := 51, attributes := #[] }, { accessFlags := 10, nameIndex := 35, descriptorIndex := 36, attributes := #[] }, { accessFlags := 10, nameIndex := 43, descriptorIndex := 44, attributes := #[] }, { accessFlags := 10, nameIndex := 11, descriptorIndex := 12, attributes := #[] }] 49 2 #[] #[])
  fields := #[]
  methods := #[k1m0, k1m1, k1m2, k1m3, k1m4]
  instanceTypes := #[]
  staticTypes := #[]
  resolved := Array.replicate 55 none
  statics := none }

def pool2 : Array CpInfo := pool [(1, .class_ 2), (0, u "java/io/Serializable"), (0, .class_ 4), (0, u "java/lang/Object")] 2

/-- java/io/Serializable -/
def k2 : Class := { plain "java/io/Serializable" (some 0) with
  accessFlags := 1537
  interfaces := #[]
  cf := some (fileOf pool2 1 #[] #[] 1537 3 #[] #[])
  fields := #[]
  methods := #[]
  instanceTypes := #[]
  staticTypes := #[]
  resolved := Array.replicate 7 none
  statics := none }

def pool3 : Array CpInfo := pool [(1, .class_ 2), (0, u "java/lang/Comparable"), (0, .class_ 4), (0, u "java/lang/Object")] 7

/-- java/lang/Comparable -/
def k3 : Class := { plain "java/lang/Comparable" (some 0) with
  accessFlags := 1537
  interfaces := #[]
  cf := some (fileOf pool3 1 #[] #[] 1537 3 #[] #[])
  fields := #[]
  methods := #[]
  instanceTypes := #[]
  staticTypes := #[]
  resolved := Array.replicate 12 none
  statics := none }

def pool4 : Array CpInfo := pool [(2, .class_ 4), (1, u "java/lang/CharSequence"), (42, .class_ 48), (0, u "java/lang/CharSequence$1CodePointIterator"), (10, .class_ 60), (0, u "java/lang/CharSequence$1CharIterator"), (5, .class_ 67), (0, u "java/lang/Object")] 63

/-- java/lang/CharSequence -/
def k4 : Class := { plain "java/lang/CharSequence" (some 0) with
  accessFlags := 1537
  interfaces := #[]
  cf := some (fileOf pool4 2 #[.nestMembers #[47, 59]] #[] 1537 66 #[] #[])
  fields := #[]
  methods := #[]
  instanceTypes := #[]
  staticTypes := #[]
  resolved := Array.replicate 131 none
  statics := none }

def pool5 : Array CpInfo := pool [(1, .class_ 2), (0, u "java/lang/constant/Constable"), (0, .class_ 4), (0, u "java/lang/Object")] 6

/-- java/lang/constant/Constable -/
def k5 : Class := { plain "java/lang/constant/Constable" (some 0) with
  accessFlags := 1537
  interfaces := #[]
  cf := some (fileOf pool5 1 #[] #[] 1537 3 #[] #[])
  fields := #[]
  methods := #[]
  instanceTypes := #[]
  staticTypes := #[]
  resolved := Array.replicate 11 none
  statics := none }

def pool6 : Array CpInfo := pool [(1, .class_ 2), (0, u "java/lang/constant/ConstantDesc"), (0, .class_ 4), (0, u "java/lang/Object")] 32

/-- java/lang/constant/ConstantDesc -/
def k6 : Class := { plain "java/lang/constant/ConstantDesc" (some 0) with
  accessFlags := 1537
  interfaces := #[]
  cf := some (fileOf pool6 1 #[] #[] 1537 3 #[] #[])
  fields := #[]
  methods := #[]
  instanceTypes := #[]
  staticTypes := #[]
  resolved := Array.replicate 37 none
  statics := none }

def pool7 : Array CpInfo := pool [(1, .methodref 2 3), (0, .class_ 4), (0, .nameAndType 5 6), (0, u "java/lang/Object"), (0, u "<init>"), (0, u "()V"), (0, .string 8), (0, u ""), (0, .fieldref 10 11), (0, .class_ 12), (0, .nameAndType 13 14), (0, u "java/lang/String"), (0, u "value"), (0, u "[B"), (0, .fieldref 10 16), (0, .nameAndType 17 18), (0, u "coder"), (0, u "B"), (2, u "hash"), (0, u "I"), (2, u "hashIsZero"), (0, u "Z"), (0, .methodref 10 28), (0, .nameAndType 5 29), (0, u "([CIILjava/lang/Void;)V"), (8, .fieldref 10 39), (0, .nameAndType 40 26), (0, u "COMPACT_STRINGS"), (1, .class_ 44), (1, u "java/lang/StringUTF16"), (0, u "compress"), (1, .methodref 42 48), (0, .nameAndType 49 50), (0, u "coderFromArrayLen"), (0, u "([BI)B"), (3, .methodref 55 56), (0, .class_ 57), (0, .nameAndType 58 59), (0, u "java/util/Arrays"), (0, u "copyOfRange"), (0, u "([BII)[B"), (47, .class_ 109), (1, u "java/lang/StringLatin1"), (32, u "()Z"), (34, .methodref 42 178), (0, .nameAndType 45 179), (0, u "([CII)[B"), (13, .class_ 195), (1, u "java/lang/System"), (16, .methodref 193 213), (0, .nameAndType 214 215), (0, u "arraycopy"), (0, u "(Ljava/lang/Object;ILjava/lang/Object;II)V"), (118, u "()I"), (0, .methodref 10 336), (0, .nameAndType 17 337), (0, u "()B"), (2, u "()[B"), (22, u "([BI)C"), (27, u "(II)V"), (35, u "(I)C"), (61, .methodref 10 490), (0, .nameAndType 5 491), (0, u "(Ljava/lang/AbstractStringBuilder;Ljava/lang/Void;)V"), (0, .methodref 10 493), (0, .nameAndType 494 142), (0, u "isLatin1"), (0, .methodref 107 496), (0, .nameAndType 497 363), (0, u "charAt"), (3, u "checkIndex"), (4, .nameAndType 507 334), (0, u "length"), (24, u "getBytes"), (16, .methodref 550 506), (0, .class_ 551), (0, u "java/lang/AbstractStringBuilder"), (0, .methodref 550 553), (0, .nameAndType 554 340), (0, u "getValue"), (20, .class_ 576), (0, u "java/lang/CharSequence"), (22, u "CASE_INSENSITIVE_ORDER"), (0, u "Ljava/util/Comparator;"), (220, u "([BIB)V"), (188, u "([C)V"), (36, .methodref 550 493), (5, .fieldref 1054 1055), (0, .class_ 1056), (0, .nameAndType 1057 1058), (0, u "jdk/internal/util/Preconditions"), (0, u "SIOOBE_FORMATTER"), (0, u "Ljava/util/function/BiFunction;"), (0, .methodref 1054 1060), (0, .nameAndType 501 1061), (0, u "(IILjava/util/function/BiFunction;)I"), (39, u "serialPersistentFields"), (0, u "[Ljava/io/ObjectStreamField;"), (0, .class_ 1104), (0, u "java/lang/String$CaseInsensitiveComparator"), (1, .class_ 1107), (0, u "java/io/Serializable"), (0, .class_ 1109), (0, u "java/lang/Comparable"), (0, .class_ 1111), (0, u "java/lang/constant/Constable"), (0, .class_ 1113), (0, u "java/lang/constant/ConstantDesc"), (2, u "serialVersionUID"), (0, u "J"), (3, u "REPL"), (0, u "C"), (2, u "LATIN1"), (1, u "UTF16"), (105, u "(Ljava/lang/StringBuilder;)V")] 217

def k7m0 : Method := { name := "<init>", desc := "()V", sig := { parameters := [], returnType := none }, accessFlags := 1, code := none }
def k7c1 : Code := { maxStack := 5, maxLocals := 2, code := jdk_42_method_3_code, exceptionTable := #[], attributes := #[] }
def k7m1 : Method := { name := "<init>", desc := "([C)V", sig := { parameters := [(.array .char)], returnType := none }, accessFlags := 1, code := some k7c1 }
def k7c2 : Code := { maxStack := 3, maxLocals := 2, code := jdk_42_method_53_code, exceptionTable := #[], attributes := #[] }
def k7m2 : Method := { name := "<init>", desc := "(Ljava/lang/StringBuilder;)V", sig := { parameters := [(.object "java/lang/StringBuilder")], returnType := none }, accessFlags := 1, code := some k7c2 }
def k7c3 : Code := { maxStack := 2, maxLocals := 1, code := jdk_42_method_54_code, exceptionTable := #[], attributes := #[] }
def k7m3 : Method := { name := "length", desc := "()I", sig := { parameters := [], returnType := some .int }, accessFlags := 1, code := some k7c3 }
def k7c4 : Code := { maxStack := 2, maxLocals := 2, code := jdk_42_method_56_code, exceptionTable := #[], attributes := #[] }
def k7m4 : Method := { name := "charAt", desc := "(I)C", sig := { parameters := [.int], returnType := some .char }, accessFlags := 1, code := some k7c4 }
def k7c5 : Code := { maxStack := 5, maxLocals := 4, code := jdk_42_method_147_code, exceptionTable := #[], attributes := #[] }
def k7m5 : Method := { name := "getBytes", desc := "([BIB)V", sig := { parameters := [(.array .byte), .int, .byte], returnType := none }, accessFlags := 0, code := some k7c5 }
def k7c6 : Code := { maxStack := 4, maxLocals := 6, code := jdk_42_method_149_code, exceptionTable := #[], attributes := #[] }
def k7m6 : Method := { name := "<init>", desc := "([CIILjava/lang/Void;)V", sig := { parameters := [(.array .char), .int, .int, (.object "java/lang/Void")], returnType := none }, accessFlags := 2, code := some k7c6 }
def k7c7 : Code := { maxStack := 5, maxLocals := 5, code := jdk_42_method_150_code, exceptionTable := #[], attributes := #[] }
def k7m7 : Method := { name := "<init>", desc := "(Ljava/lang/AbstractStringBuilder;Ljava/lang/Void;)V", sig := { parameters := [(.object "java/lang/AbstractStringBuilder"), (.object "java/lang/Void")], returnType := none }, accessFlags := 0, code := some k7c7 }
def k7c8 : Code := { maxStack := 1, maxLocals := 1, code := jdk_42_method_152_code, exceptionTable := #[], attributes := #[] }
def k7m8 : Method := { name := "coder", desc := "()B", sig := { parameters := [], returnType := some .byte }, accessFlags := 0, code := some k7c8 }
def k7c9 : Code := { maxStack := 1, maxLocals := 1, code := jdk_42_method_154_code, exceptionTable := #[], attributes := #[] }
def k7m9 : Method := { name := "isLatin1", desc := "()Z", sig := { parameters := [], returnType := some .boolean }, accessFlags := 0, code := some k7c9 }
def k7c10 : Code := { maxStack := 3, maxLocals := 2, code := jdk_42_method_155_code, exceptionTable := #[], attributes := #[] }
def k7m10 : Method := { name := "checkIndex", desc := "(II)V", sig := { parameters := [.int, .int], returnType := none }, accessFlags := 8, code := some k7c10 }
/-- java/lang/String -/
def k7 : Class := { plain "java/lang/String" (some 0) with
  accessFlags := 49
  interfaces := #[2, 3, 4, 5, 6]
  cf := some (fileOf pool7 10 #[.nestMembers #[1103]] #[{ accessFlags := 1, nameIndex := 5, descriptorIndex := 6, attributes := #[] }, { accessFlags := 1, nameIndex := 5, descriptorIndex := 1010, attributes := #[] }, { accessFlags := 1, nameIndex := 5, descriptorIndex := 1233, attributes := #[] }, { accessFlags := 1, nameIndex := 507, descriptorIndex := 334, attributes := #[] }, { accessFlags := 1, nameIndex := 497, descriptorIndex := 427, attributes := #[] }, { accessFlags := 0, nameIndex := 532, descriptorIndex := 821, attributes := #[] }, { accessFlags := 2, nameIndex := 5, descriptorIndex := 29, attributes := #[] }, { accessFlags := 0, nameIndex := 5, descriptorIndex := 491, attributes := #[] }, { accessFlags := 0, nameIndex := 17, descriptorIndex := 337, attributes := #[] }, { accessFlags := 0, nameIndex := 494, descriptorIndex := 142, attributes := #[] }, { accessFlags := 8, nameIndex := 501, descriptorIndex := 391, attributes := #[] }] 49 2 #[1106, 1108, 575, 1110, 1112] #[{ accessFlags := 18, nameIndex := 13, descriptorIndex := 14, attributes := #[] }, { accessFlags := 18, nameIndex := 17, descriptorIndex := 18, attributes := #[] }, { accessFlags := 2, nameIndex := 21, descriptorIndex := 22, attributes := #[] }, { accessFlags := 2, nameIndex := 25, descriptorIndex := 26, attributes := #[] }, { accessFlags := 26, nameIndex := 1116, descriptorIndex := 1117, attributes := #[] }, { accessFlags := 24, nameIndex := 40, descriptorIndex := 26, attributes := #[] }, { accessFlags := 26, nameIndex := 1101, descriptorIndex := 1102, attributes := #[] }, { accessFlags := 26, nameIndex := 1121, descriptorIndex := 1122, attributes := #[] }, { accessFlags := 25, nameIndex := 599, descriptorIndex := 600, attributes := #[] }, { accessFlags := 24, nameIndex := 1125, descriptorIndex := 18, attributes := #[] }, { accessFlags := 24, nameIndex := 1127, descriptorIndex := 18, attributes := #[] }])
  fields := #[{ name := "value", type := (.array .byte), accessFlags := 18, slot := 0, constantValue := 0 }, { name := "coder", type := .byte, accessFlags := 18, slot := 1, constantValue := 0 }, { name := "hash", type := .int, accessFlags := 2, slot := 2, constantValue := 0 }, { name := "hashIsZero", type := .boolean, accessFlags := 2, slot := 3, constantValue := 0 }, { name := "serialVersionUID", type := .long, accessFlags := 26, slot := 0, constantValue := 0 }, { name := "COMPACT_STRINGS", type := .boolean, accessFlags := 24, slot := 1, constantValue := 0 }, { name := "serialPersistentFields", type := (.array (.object "java/io/ObjectStreamField")), accessFlags := 26, slot := 2, constantValue := 0 }, { name := "REPL", type := .char, accessFlags := 26, slot := 3, constantValue := 0 }, { name := "CASE_INSENSITIVE_ORDER", type := (.object "java/util/Comparator"), accessFlags := 25, slot := 4, constantValue := 0 }, { name := "LATIN1", type := .byte, accessFlags := 24, slot := 5, constantValue := 0 }, { name := "UTF16", type := .byte, accessFlags := 24, slot := 6, constantValue := 0 }]
  methods := #[k7m0, k7m1, k7m2, k7m3, k7m4, k7m5, k7m6, k7m7, k7m8, k7m9, k7m10]
  instanceTypes := #[(.array .byte), .byte, .int, .boolean]
  staticTypes := #[.long, .boolean, (.array (.object "java/io/ObjectStreamField")), .char, (.object "java/util/Comparator"), .byte, .byte]
  resolved := Array.replicate 1451 none
  statics := some 0 }

def pool8 : Array CpInfo := pool [(1, .methodref 2 3), (0, .class_ 4), (0, .nameAndType 5 6), (0, u "java/lang/Object"), (0, u "<init>"), (0, u "()V"), (0, .class_ 8), (0, u "java/lang/StringBuilder"), (0, .methodref 7 3), (0, .fieldref 11 12), (0, .class_ 13), (0, .nameAndType 14 15), (0, u "com/example/tidy_drawings/tidydrawings/Html"), (0, u "written"), (0, u "Ljava/lang/StringBuilder;"), (9, .methodref 7 26), (0, .nameAndType 27 28), (0, u "append"), (0, u "(C)Ljava/lang/StringBuilder;"), (0, .methodref 7 30), (0, .nameAndType 27 31), (0, u "(Ljava/lang/String;)Ljava/lang/StringBuilder;"), (5, .string 38), (0, u "</"), (7, u "(Ljava/lang/String;)Lcom/example/tidy_drawings/tidydrawings/Html;"), (2, u "close"), (0, .methodref 7 51), (0, .nameAndType 52 53), (0, u "toString"), (0, u "()Ljava/lang/String;"), (28, u "markup")] 17

def k8c0 : Code := { maxStack := 3, maxLocals := 1, code := prog_12_method_1_code, exceptionTable := #[], attributes := #[] }
def k8m0 : Method := { name := "<init>", desc := "()V", sig := { parameters := [], returnType := none }, accessFlags := 0, code := some k8c0 }
def k8c1 : Code := { maxStack := 2, maxLocals := 2, code := prog_12_method_3_code, exceptionTable := #[], attributes := #[] }
def k8m1 : Method := { name := "close", desc := "(Ljava/lang/String;)Lcom/example/tidy_drawings/tidydrawings/Html;", sig := { parameters := [(.object "java/lang/String")], returnType := some (.object "com/example/tidy_drawings/tidydrawings/Html") }, accessFlags := 0, code := some k8c1 }
def k8c2 : Code := { maxStack := 2, maxLocals := 2, code := prog_12_method_6_code, exceptionTable := #[], attributes := #[] }
def k8m2 : Method := { name := "markup", desc := "(Ljava/lang/String;)Lcom/example/tidy_drawings/tidydrawings/Html;", sig := { parameters := [(.object "java/lang/String")], returnType := some (.object "com/example/tidy_drawings/tidydrawings/Html") }, accessFlags := 0, code := some k8c2 }
def k8c3 : Code := { maxStack := 1, maxLocals := 1, code := prog_12_method_7_code, exceptionTable := #[], attributes := #[] }
def k8m3 : Method := { name := "toString", desc := "()Ljava/lang/String;", sig := { parameters := [], returnType := some (.object "java/lang/String") }, accessFlags := 1, code := some k8c3 }
/-- com/example/tidy_drawings/tidydrawings/Html -/
def k8 : Class := { plain "com/example/tidy_drawings/tidydrawings/Html" (some 0) with
  accessFlags := 48
  interfaces := #[]
  cf := some (fileOf pool8 11 #[] #[{ accessFlags := 0, nameIndex := 5, descriptorIndex := 6, attributes := #[] }, { accessFlags := 0, nameIndex := 49, descriptorIndex := 46, attributes := #[] }, { accessFlags := 0, nameIndex := 82, descriptorIndex := 46, attributes := #[] }, { accessFlags := 1, nameIndex := 52, descriptorIndex := 53, attributes := #[] }] 48 2 #[] #[{ accessFlags := 18, nameIndex := 14, descriptorIndex := 15, attributes := #[] }])
  fields := #[{ name := "written", type := (.object "java/lang/StringBuilder"), accessFlags := 18, slot := 0, constantValue := 0 }]
  methods := #[k8m0, k8m1, k8m2, k8m3]
  instanceTypes := #[(.object "java/lang/StringBuilder")]
  staticTypes := #[]
  resolved := Array.replicate 100 none
  statics := none }

def pool9 : Array CpInfo := pool [(1, .class_ 2), (0, u "java/lang/Appendable"), (0, .class_ 4), (0, u "java/lang/Object")] 9

/-- java/lang/Appendable -/
def k9 : Class := { plain "java/lang/Appendable" (some 0) with
  accessFlags := 1537
  interfaces := #[]
  cf := some (fileOf pool9 1 #[] #[] 1537 3 #[] #[])
  fields := #[]
  methods := #[]
  instanceTypes := #[]
  staticTypes := #[]
  resolved := Array.replicate 14 none
  statics := none }

def pool10 : Array CpInfo := pool [(1, .class_ 2), (0, u "java/lang/String"), (0, .methodref 4 5), (0, .class_ 6), (0, .nameAndType 7 8), (0, u "java/lang/Object"), (0, u "<init>"), (0, u "()V"), (1, .class_ 12), (1, u "java/lang/AbstractStringBuilder"), (0, u "EMPTYVALUE"), (0, u "[B"), (0, .fieldref 10 16), (0, .nameAndType 17 14), (0, u "value"), (0, .fieldref 1 19), (0, .nameAndType 20 21), (0, u "COMPACT_STRINGS"), (0, u "Z"), (0, .fieldref 10 23), (0, .nameAndType 24 25), (0, u "coder"), (0, u "B"), (6, .methodref 1 33), (0, .nameAndType 34 35), (0, u "length"), (0, u "()I"), (4, .methodref 1 41), (0, .nameAndType 24 42), (0, u "()B"), (2, u "append"), (0, u "(Ljava/lang/String;)Ljava/lang/AbstractStringBuilder;"), (1, .class_ 49), (0, u "java/lang/CharSequence"), (19, u "(Ljava/lang/String;)V"), (5, u "maybeLatin1"), (3, .fieldref 10 80), (0, .nameAndType 81 82), (0, u "count"), (0, u "I"), (0, .methodref 10 84), (0, .nameAndType 85 86), (0, u "isLatin1"), (0, u "()Z"), (1, .class_ 90), (1, u "java/lang/StringLatin1"), (9, .methodref 10 101), (0, .nameAndType 102 103), (0, u "ensureCapacityInternal"), (0, u "(I)V"), (87, .methodref 88 192), (0, .nameAndType 193 194), (0, u "canEncode"), (0, u "(C)Z"), (13, .methodref 10 209), (0, .nameAndType 210 211), (0, u "putStringAt"), (0, u "(ILjava/lang/String;)V"), (5, u "inflateIfNeededFor"), (2, .nameAndType 221 222), (0, u "getBytes"), (0, u "([BIB)V"), (69, u "(C)Ljava/lang/AbstractStringBuilder;"), (104, .methodref 10 398), (0, .nameAndType 217 69), (0, .methodref 1 220), (3, u "()[B"), (40, .class_ 445), (0, u "java/lang/Appendable"), (106, u "getValue")] 56

def k10m0 : Method := { name := "<init>", desc := "()V", sig := { parameters := [], returnType := none }, accessFlags := 0, code := none }
def k10c1 : Code := { maxStack := 2, maxLocals := 2, code := jdk_68_method_2_code, exceptionTable := #[], attributes := #[] }
def k10m1 : Method := { name := "<init>", desc := "(I)V", sig := { parameters := [.int], returnType := none }, accessFlags := 0, code := some k10c1 }
def k10c2 : Code := { maxStack := 1, maxLocals := 1, code := jdk_68_method_6_code, exceptionTable := #[], attributes := #[] }
def k10m2 : Method := { name := "length", desc := "()I", sig := { parameters := [], returnType := some .int }, accessFlags := 1, code := some k10c2 }
def k10c3 : Code := { maxStack := 4, maxLocals := 3, code := jdk_68_method_9_code, exceptionTable := #[], attributes := #[] }
def k10m3 : Method := { name := "ensureCapacityInternal", desc := "(I)V", sig := { parameters := [.int], returnType := none }, accessFlags := 2, code := some k10c3 }
def k10c4 : Code := { maxStack := 3, maxLocals := 3, code := jdk_68_method_22_code, exceptionTable := #[], attributes := #[] }
def k10m4 : Method := { name := "append", desc := "(Ljava/lang/String;)Ljava/lang/AbstractStringBuilder;", sig := { parameters := [(.object "java/lang/String")], returnType := some (.object "java/lang/AbstractStringBuilder") }, accessFlags := 1, code := some k10c4 }
def k10c5 : Code := { maxStack := 5, maxLocals := 2, code := jdk_68_method_31_code, exceptionTable := #[], attributes := #[] }
def k10m5 : Method := { name := "append", desc := "(C)Ljava/lang/AbstractStringBuilder;", sig := { parameters := [.char], returnType := some (.object "java/lang/AbstractStringBuilder") }, accessFlags := 1, code := some k10c5 }
def k10c6 : Code := { maxStack := 1, maxLocals := 1, code := jdk_68_method_64_code, exceptionTable := #[], attributes := #[] }
def k10m6 : Method := { name := "getValue", desc := "()[B", sig := { parameters := [], returnType := some (.array .byte) }, accessFlags := 16, code := some k10c6 }
def k10c7 : Code := { maxStack := 1, maxLocals := 1, code := jdk_68_method_68_code, exceptionTable := #[], attributes := #[] }
def k10m7 : Method := { name := "isLatin1", desc := "()Z", sig := { parameters := [], returnType := some .boolean }, accessFlags := 16, code := some k10c7 }
def k10c8 : Code := { maxStack := 2, maxLocals := 2, code := jdk_68_method_71_code, exceptionTable := #[], attributes := #[] }
def k10m8 : Method := { name := "inflateIfNeededFor", desc := "(Ljava/lang/String;)V", sig := { parameters := [(.object "java/lang/String")], returnType := none }, accessFlags := 2, code := some k10c8 }
def k10c9 : Code := { maxStack := 4, maxLocals := 3, code := jdk_68_method_73_code, exceptionTable := #[], attributes := #[] }
def k10m9 : Method := { name := "putStringAt", desc := "(ILjava/lang/String;)V", sig := { parameters := [.int, (.object "java/lang/String")], returnType := none }, accessFlags := 2, code := some k10c9 }
/-- java/lang/AbstractStringBuilder -/
def k10 : Class := { plain "java/lang/AbstractStringBuilder" (some 0) with
  accessFlags := 1056
  interfaces := #[9, 4]
  cf := some (fileOf pool10 10 #[] #[{ accessFlags := 0, nameIndex := 7, descriptorIndex := 8, attributes := #[] }, { accessFlags := 0, nameIndex := 7, descriptorIndex := 103, attributes := #[] }, { accessFlags := 1, nameIndex := 34, descriptorIndex := 35, attributes := #[] }, { accessFlags := 2, nameIndex := 102, descriptorIndex := 103, attributes := #[] }, { accessFlags := 1, nameIndex := 45, descriptorIndex := 46, attributes := #[] }, { accessFlags := 1, nameIndex := 45, descriptorIndex := 292, attributes := #[] }, { accessFlags := 16, nameIndex := 552, descriptorIndex := 403, attributes := #[] }, { accessFlags := 16, nameIndex := 85, descriptorIndex := 86, attributes := #[] }, { accessFlags := 2, nameIndex := 217, descriptorIndex := 69, attributes := #[] }, { accessFlags := 2, nameIndex := 210, descriptorIndex := 211, attributes := #[] }] 1056 4 #[444, 48] #[{ accessFlags := 0, nameIndex := 17, descriptorIndex := 14, attributes := #[] }, { accessFlags := 0, nameIndex := 24, descriptorIndex := 25, attributes := #[] }, { accessFlags := 0, nameIndex := 75, descriptorIndex := 21, attributes := #[] }, { accessFlags := 0, nameIndex := 81, descriptorIndex := 82, attributes := #[] }, { accessFlags := 26, nameIndex := 13, descriptorIndex := 14, attributes := #[] }])
  fields := #[{ name := "value", type := (.array .byte), accessFlags := 0, slot := 0, constantValue := 0 }, { name := "coder", type := .byte, accessFlags := 0, slot := 1, constantValue := 0 }, { name := "maybeLatin1", type := .boolean, accessFlags := 0, slot := 2, constantValue := 0 }, { name := "count", type := .int, accessFlags := 0, slot := 3, constantValue := 0 }, { name := "EMPTYVALUE", type := (.array .byte), accessFlags := 26, slot := 0, constantValue := 0 }]
  methods := #[k10m0, k10m1, k10m2, k10m3, k10m4, k10m5, k10m6, k10m7, k10m8, k10m9]
  instanceTypes := #[(.array .byte), .byte, .boolean, .int]
  staticTypes := #[(.array .byte)]
  resolved := Array.replicate 609 none
  statics := none }

def pool11 : Array CpInfo := pool [(1, .methodref 2 3), (0, .class_ 4), (0, .nameAndType 5 6), (0, u "java/lang/AbstractStringBuilder"), (0, u "<init>"), (0, u "(I)V"), (11, .class_ 20), (1, u "java/lang/String"), (3, .class_ 26), (1, u "java/lang/StringBuilder"), (0, u "append"), (0, u "(Ljava/lang/String;)Ljava/lang/StringBuilder;"), (0, .methodref 2 30), (0, .nameAndType 27 31), (0, u "(Ljava/lang/String;)Ljava/lang/AbstractStringBuilder;"), (18, .methodref 2 51), (0, .nameAndType 27 52), (0, u "(C)Ljava/lang/AbstractStringBuilder;"), (84, .methodref 18 138), (0, .nameAndType 5 139), (0, u "(Ljava/lang/StringBuilder;)V"), (5, u "()V"), (10, u "()I"), (129, u "(C)Ljava/lang/StringBuilder;"), (56, .methodref 2 344), (0, .nameAndType 345 156), (0, u "length"), (3, .class_ 350), (0, u "java/lang/Appendable"), (0, .class_ 352), (0, u "java/io/Serializable"), (0, .class_ 354), (0, u "java/lang/Comparable"), (0, .class_ 356), (0, u "java/lang/CharSequence"), (0, u "serialVersionUID"), (0, u "J"), (40, u "toString"), (0, u "()Ljava/lang/String;")] 21

def k11c0 : Code := { maxStack := 2, maxLocals := 1, code := jdk_67_method_1_code, exceptionTable := #[], attributes := #[] }
def k11m0 : Method := { name := "<init>", desc := "()V", sig := { parameters := [], returnType := none }, accessFlags := 1, code := some k11c0 }
def k11c1 : Code := { maxStack := 2, maxLocals := 2, code := jdk_67_method_7_code, exceptionTable := #[], attributes := #[] }
def k11m1 : Method := { name := "append", desc := "(Ljava/lang/String;)Ljava/lang/StringBuilder;", sig := { parameters := [(.object "java/lang/String")], returnType := some (.object "java/lang/StringBuilder") }, accessFlags := 1, code := some k11c1 }
def k11c2 : Code := { maxStack := 2, maxLocals := 2, code := jdk_67_method_14_code, exceptionTable := #[], attributes := #[] }
def k11m2 : Method := { name := "append", desc := "(C)Ljava/lang/StringBuilder;", sig := { parameters := [.char], returnType := some (.object "java/lang/StringBuilder") }, accessFlags := 1, code := some k11c2 }
def k11c3 : Code := { maxStack := 3, maxLocals := 1, code := jdk_67_method_42_code, exceptionTable := #[], attributes := #[] }
def k11m3 : Method := { name := "toString", desc := "()Ljava/lang/String;", sig := { parameters := [], returnType := some (.object "java/lang/String") }, accessFlags := 1, code := some k11c3 }
def k11c4 : Code := { maxStack := 1, maxLocals := 1, code := jdk_67_method_93_code, exceptionTable := #[], attributes := #[] }
def k11m4 : Method := { name := "length", desc := "()I", sig := { parameters := [], returnType := some .int }, accessFlags := 4161, code := some k11c4 }
/-- java/lang/StringBuilder -/
def k11 : Class := { plain "java/lang/StringBuilder" (some 10) with
  accessFlags := 49
  interfaces := #[9, 2, 3, 4]
  cf := some (fileOf pool11 24 #[] #[{ accessFlags := 1, nameIndex := 5, descriptorIndex := 145, attributes := #[] }, { accessFlags := 1, nameIndex := 27, descriptorIndex := 28, attributes := #[] }, { accessFlags := 1, nameIndex := 27, descriptorIndex := 286, attributes := #[] }, { accessFlags := 1, nameIndex := 399, descriptorIndex := 400, attributes := #[] }, { accessFlags := 4161, nameIndex := 345, descriptorIndex := 156, attributes := #[] }] 49 2 #[349, 351, 353, 355] #[{ accessFlags := 24, nameIndex := 357, descriptorIndex := 358, attributes := #[] }])
  fields := #[{ name := "serialVersionUID", type := .long, accessFlags := 24, slot := 0, constantValue := 0 }]
  methods := #[k11m0, k11m1, k11m2, k11m3, k11m4]
  instanceTypes := #[(.array .byte), .byte, .boolean, .int]
  staticTypes := #[.long]
  resolved := Array.replicate 422 none
  statics := none }

def pool12 : Array CpInfo := pool [(2, .class_ 4), (1, u "java/lang/Object"), (0, u "<init>"), (0, u "()V"), (1, .class_ 10), (1, u "java/lang/System"), (0, u "allowSecurityManager"), (0, u "I"), (16, u "cons"), (0, u "Ljava/io/Console;"), (77, .class_ 110), (1, u "java/lang/System$CallersHolder"), (43, u "initialErrStream"), (0, u "Ljava/io/PrintStream;"), (19, u "security"), (0, u "Ljava/lang/SecurityManager;"), (31, .class_ 209), (0, u "java/lang/System$1"), (7, u "props"), (0, u "Ljava/util/Properties;"), (2, u "lineSeparator"), (0, u "Ljava/lang/String;"), (96, .class_ 321), (1, u "java/lang/System$LoggerFinder"), (5, .class_ 328), (0, u "java/lang/System$Logger"), (67, u "err"), (2, u "out"), (91, u "notSupportedJnuEncoding"), (15, u "in"), (17, u "initialIn"), (0, u "Ljava/io/InputStream;"), (35, u "bootLayer"), (0, u "Ljava/lang/ModuleLayer;"), (99, .class_ 664), (0, u "java/lang/System$2"), (9, u "NEVER"), (2, u "MAYBE"), (49, u "arraycopy"), (0, u "(Ljava/lang/Object;ILjava/lang/Object;II)V"), (72, .class_ 802), (0, u "java/lang/System$Logger$Level")] 31

def k12m0 : Method := { name := "<init>", desc := "()V", sig := { parameters := [], returnType := none }, accessFlags := 2, code := none }
def k12m1 : Method := { name := "arraycopy", desc := "(Ljava/lang/Object;ILjava/lang/Object;II)V", sig := { parameters := [(.object "java/lang/Object"), .int, (.object "java/lang/Object"), .int, .int], returnType := none }, accessFlags := 265, code := none }
/-- java/lang/System -/
def k12 : Class := { plain "java/lang/System" (some 0) with
  accessFlags := 49
  interfaces := #[]
  cf := some (fileOf pool12 8 #[.nestMembers #[319, 327, 801, 108, 663, 208]] #[{ accessFlags := 2, nameIndex := 5, descriptorIndex := 6, attributes := #[] }, { accessFlags := 265, nameIndex := 727, descriptorIndex := 728, attributes := #[] }] 49 2 #[] #[{ accessFlags := 25, nameIndex := 507, descriptorIndex := 526, attributes := #[] }, { accessFlags := 25, nameIndex := 399, descriptorIndex := 155, attributes := #[] }, { accessFlags := 25, nameIndex := 396, descriptorIndex := 155, attributes := #[] }, { accessFlags := 10, nameIndex := 525, descriptorIndex := 526, attributes := #[] }, { accessFlags := 26, nameIndex := 674, descriptorIndex := 12, attributes := #[] }, { accessFlags := 26, nameIndex := 677, descriptorIndex := 12, attributes := #[] }, { accessFlags := 10, nameIndex := 11, descriptorIndex := 12, attributes := #[] }, { accessFlags := 74, nameIndex := 175, descriptorIndex := 176, attributes := #[] }, { accessFlags := 10, nameIndex := 491, descriptorIndex := 222, attributes := #[] }, { accessFlags := 74, nameIndex := 29, descriptorIndex := 30, attributes := #[] }, { accessFlags := 74, nameIndex := 154, descriptorIndex := 155, attributes := #[] }, { accessFlags := 10, nameIndex := 217, descriptorIndex := 218, attributes := #[] }, { accessFlags := 10, nameIndex := 221, descriptorIndex := 222, attributes := #[] }, { accessFlags := 8, nameIndex := 562, descriptorIndex := 563, attributes := #[] }])
  fields := #[{ name := "in", type := (.object "java/io/InputStream"), accessFlags := 25, slot := 0, constantValue := 0 }, { name := "out", type := (.object "java/io/PrintStream"), accessFlags := 25, slot := 1, constantValue := 0 }, { name := "err", type := (.object "java/io/PrintStream"), accessFlags := 25, slot := 2, constantValue := 0 }, { name := "initialIn", type := (.object "java/io/InputStream"), accessFlags := 10, slot := 3, constantValue := 0 }, { name := "NEVER", type := .int, accessFlags := 26, slot := 4, constantValue := 0 }, { name := "MAYBE", type := .int, accessFlags := 26, slot := 5, constantValue := 0 }, { name := "allowSecurityManager", type := .int, accessFlags := 10, slot := 6, constantValue := 0 }, { name := "security", type := (.object "java/lang/SecurityManager"), accessFlags := 74, slot := 7, constantValue := 0 }, { name := "notSupportedJnuEncoding", type := (.object "java/lang/String"), accessFlags := 10, slot := 8, constantValue := 0 }, { name := "cons", type := (.object "java/io/Console"), accessFlags := 74, slot := 9, constantValue := 0 }, { name := "initialErrStream", type := (.object "java/io/PrintStream"), accessFlags := 74, slot := 10, constantValue := 0 }, { name := "props", type := (.object "java/util/Properties"), accessFlags := 10, slot := 11, constantValue := 0 }, { name := "lineSeparator", type := (.object "java/lang/String"), accessFlags := 10, slot := 12, constantValue := 0 }, { name := "bootLayer", type := (.object "java/lang/ModuleLayer"), accessFlags := 8, slot := 13, constantValue := 0 }]
  methods := #[k12m0, k12m1]
  instanceTypes := #[]
  staticTypes := #[(.object "java/io/InputStream"), (.object "java/io/PrintStream"), (.object "java/io/PrintStream"), (.object "java/io/InputStream"), .int, .int, .int, (.object "java/lang/SecurityManager"), (.object "java/lang/String"), (.object "java/io/Console"), (.object "java/io/PrintStream"), (.object "java/util/Properties"), (.object "java/lang/String"), (.object "java/lang/ModuleLayer")]
  resolved := Array.replicate 834 none
  statics := none }

def pool13 : Array CpInfo := pool [(1, .class_ 2), (0, u "java/lang/String"), (1, .class_ 6), (1, u "java/lang/Object"), (0, u "<init>"), (0, u "()V"), (0, .methodref 1 10), (0, .nameAndType 11 12), (0, u "checkIndex"), (0, u "(II)V"), (1, .class_ 16), (1, u "java/lang/StringLatin1"), (36, u "([BI)C"), (36, u "canEncode"), (14, u "(C)Z"), (15, u "$assertionsDisabled"), (0, u "Z"), (98, .class_ 223), (1, u "java/lang/StringLatin1$LinesSpliterator"), (28, u "charAt"), (137, .class_ 391), (0, u "java/lang/StringLatin1$CharsSpliterator")] 3

def k13m0 : Method := { name := "<init>", desc := "()V", sig := { parameters := [], returnType := none }, accessFlags := 0, code := none }
def k13c1 : Code := { maxStack := 2, maxLocals := 2, code := jdk_43_method_2_code, exceptionTable := #[], attributes := #[] }
def k13m1 : Method := { name := "charAt", desc := "([BI)C", sig := { parameters := [(.array .byte), .int], returnType := some .char }, accessFlags := 9, code := some k13c1 }
def k13c2 : Code := { maxStack := 2, maxLocals := 1, code := jdk_43_method_3_code, exceptionTable := #[], attributes := #[] }
def k13m2 : Method := { name := "canEncode", desc := "(C)Z", sig := { parameters := [.char], returnType := some .boolean }, accessFlags := 9, code := some k13c2 }
/-- java/lang/StringLatin1 -/
def k13 : Class := { plain "java/lang/StringLatin1" (some 0) with
  accessFlags := 48
  interfaces := #[]
  cf := some (fileOf pool13 14 #[.nestMembers #[390, 221]] #[{ accessFlags := 0, nameIndex := 7, descriptorIndex := 8, attributes := #[] }, { accessFlags := 9, nameIndex := 252, descriptorIndex := 53, attributes := #[] }, { accessFlags := 9, nameIndex := 90, descriptorIndex := 105, attributes := #[] }] 48 4 #[] #[{ accessFlags := 4120, nameIndex := 121, descriptorIndex := 122, attributes := #[] }])
  fields := #[{ name := "$assertionsDisabled", type := .boolean, accessFlags := 4120, slot := 0, constantValue := 0 }]
  methods := #[k13m0, k13m1, k13m2]
  instanceTypes := #[]
  staticTypes := #[.boolean]
  resolved := Array.replicate 395 none
  statics := none }

def pool14 : Array CpInfo := pool [(2, .class_ 4), (1, u "java/lang/Object"), (0, u "<init>"), (0, u "()V"), (7, .class_ 16), (1, u "java/util/Arrays"), (57, .class_ 76), (1, u "java/util/Arrays$NaturalOrder"), (36, .class_ 115), (1, u "java/util/Arrays$LegacyMergeSort"), (1, u "Z"), (21, u "copyOfRange"), (10, .methodref 151 152), (0, .class_ 153), (0, .nameAndType 154 155), (0, u "java/lang/System"), (0, u "arraycopy"), (0, u "(Ljava/lang/Object;ILjava/lang/Object;II)V"), (148, .methodref 305 306), (0, .class_ 307), (0, .nameAndType 308 309), (0, u "java/lang/Math"), (0, u "min"), (0, u "(II)I"), (29, .methodref 14 340), (0, .nameAndType 341 342), (0, u "copyOfRangeByte"), (0, u "([BII)[B"), (0, .methodref 14 344), (0, .nameAndType 345 346), (0, u "checkLength"), (0, u "(II)V"), (28, .class_ 376), (0, u "java/util/Arrays$ArrayList"), (68, u "$assertionsDisabled"), (269, u "MIN_ARRAY_SORT_GRAN"), (0, u "I"), (2, u "INSERTIONSORT_THRESHOLD"), (255, .class_ 976), (0, u "java/util/Arrays$ArrayItr")] 52

def k14m0 : Method := { name := "<init>", desc := "()V", sig := { parameters := [], returnType := none }, accessFlags := 2, code := none }
def k14c1 : Code := { maxStack := 4, maxLocals := 2, code := jdk_65_method_131_code, exceptionTable := #[], attributes := #[] }
def k14m1 : Method := { name := "checkLength", desc := "(II)V", sig := { parameters := [.int, .int], returnType := none }, accessFlags := 10, code := some k14c1 }
def k14c2 : Code := { maxStack := 3, maxLocals := 3, code := jdk_65_method_132_code, exceptionTable := #[], attributes := #[] }
def k14m2 : Method := { name := "copyOfRange", desc := "([BII)[B", sig := { parameters := [(.array .byte), .int, .int], returnType := some (.array .byte) }, accessFlags := 9, code := some k14c2 }
def k14c3 : Code := { maxStack := 6, maxLocals := 5, code := jdk_65_method_133_code, exceptionTable := #[], attributes := #[] }
def k14m3 : Method := { name := "copyOfRangeByte", desc := "([BII)[B", sig := { parameters := [(.array .byte), .int, .int], returnType := some (.array .byte) }, accessFlags := 10, code := some k14c3 }
/-- java/util/Arrays -/
def k14 : Class := { plain "java/util/Arrays" (some 0) with
  accessFlags := 49
  interfaces := #[]
  cf := some (fileOf pool14 14 #[.nestMembers #[975, 375, 113, 74]] #[{ accessFlags := 2, nameIndex := 5, descriptorIndex := 6, attributes := #[] }, { accessFlags := 10, nameIndex := 345, descriptorIndex := 346, attributes := #[] }, { accessFlags := 9, nameIndex := 139, descriptorIndex := 342, attributes := #[] }, { accessFlags := 10, nameIndex := 341, descriptorIndex := 342, attributes := #[] }] 49 2 #[] #[{ accessFlags := 26, nameIndex := 715, descriptorIndex := 716, attributes := #[] }, { accessFlags := 26, nameIndex := 719, descriptorIndex := 716, attributes := #[] }, { accessFlags := 4120, nameIndex := 445, descriptorIndex := 117, attributes := #[] }])
  fields := #[{ name := "MIN_ARRAY_SORT_GRAN", type := .int, accessFlags := 26, slot := 0, constantValue := 0 }, { name := "INSERTIONSORT_THRESHOLD", type := .int, accessFlags := 26, slot := 1, constantValue := 0 }, { name := "$assertionsDisabled", type := .boolean, accessFlags := 4120, slot := 2, constantValue := 0 }]
  methods := #[k14m0, k14m1, k14m2, k14m3]
  instanceTypes := #[]
  staticTypes := #[.int, .int, .boolean]
  resolved := Array.replicate 1029 none
  statics := none }

def pool15 : Array CpInfo := pool [(1, .class_ 2), (0, u "java/lang/Math"), (1, .class_ 6), (1, u "java/lang/Object"), (0, u "<init>"), (0, u "()V"), (89, .class_ 100), (1, u "java/lang/Math$RandomNumberGeneratorHolder"), (71, u "negativeZeroFloatBits"), (0, u "J"), (2, u "negativeZeroDoubleBits"), (24, u "min"), (43, u "$assertionsDisabled"), (0, u "Z"), (88, u "(II)I"), (2, u "twoToTheDoubleScaleDown"), (0, u "D"), (4, u "twoToTheDoubleScaleUp"), (9, u "E"), (3, u "PI"), (2, u "TAU"), (2, u "DEGREES_TO_RADIANS"), (0, u "RADIANS_TO_DEGREES")] 94

def k15m0 : Method := { name := "<init>", desc := "()V", sig := { parameters := [], returnType := none }, accessFlags := 2, code := none }
def k15c1 : Code := { maxStack := 2, maxLocals := 2, code := jdk_29_method_69_code, exceptionTable := #[], attributes := #[] }
def k15m1 : Method := { name := "min", desc := "(II)I", sig := { parameters := [.int, .int], returnType := some .int }, accessFlags := 9, code := some k15c1 }
/-- java/lang/Math -/
def k15 : Class := { plain "java/lang/Math" (some 0) with
  accessFlags := 49
  interfaces := #[]
  cf := some (fileOf pool15 1 #[.nestMembers #[98]] #[{ accessFlags := 2, nameIndex := 7, descriptorIndex := 8, attributes := #[] }, { accessFlags := 9, nameIndex := 201, descriptorIndex := 335, attributes := #[] }] 49 4 #[] #[{ accessFlags := 25, nameIndex := 354, descriptorIndex := 339, attributes := #[] }, { accessFlags := 25, nameIndex := 358, descriptorIndex := 339, attributes := #[] }, { accessFlags := 25, nameIndex := 361, descriptorIndex := 339, attributes := #[] }, { accessFlags := 26, nameIndex := 364, descriptorIndex := 339, attributes := #[] }, { accessFlags := 26, nameIndex := 365, descriptorIndex := 339, attributes := #[] }, { accessFlags := 26, nameIndex := 172, descriptorIndex := 173, attributes := #[] }, { accessFlags := 26, nameIndex := 176, descriptorIndex := 173, attributes := #[] }, { accessFlags := 8, nameIndex := 344, descriptorIndex := 339, attributes := #[] }, { accessFlags := 8, nameIndex := 338, descriptorIndex := 339, attributes := #[] }, { accessFlags := 4120, nameIndex := 245, descriptorIndex := 246, attributes := #[] }])
  fields := #[{ name := "E", type := .double, accessFlags := 25, slot := 0, constantValue := 0 }, { name := "PI", type := .double, accessFlags := 25, slot := 1, constantValue := 0 }, { name := "TAU", type := .double, accessFlags := 25, slot := 2, constantValue := 0 }, { name := "DEGREES_TO_RADIANS", type := .double, accessFlags := 26, slot := 3, constantValue := 0 }, { name := "RADIANS_TO_DEGREES", type := .double, accessFlags := 26, slot := 4, constantValue := 0 }, { name := "negativeZeroFloatBits", type := .long, accessFlags := 26, slot := 5, constantValue := 0 }, { name := "negativeZeroDoubleBits", type := .long, accessFlags := 26, slot := 6, constantValue := 0 }, { name := "twoToTheDoubleScaleUp", type := .double, accessFlags := 8, slot := 7, constantValue := 0 }, { name := "twoToTheDoubleScaleDown", type := .double, accessFlags := 8, slot := 8, constantValue := 0 }, { name := "$assertionsDisabled", type := .boolean, accessFlags := 4120, slot := 9, constantValue := 0 }]
  methods := #[k15m0, k15m1]
  instanceTypes := #[]
  staticTypes := #[.double, .double, .double, .double, .double, .long, .long, .double, .double, .boolean]
  resolved := Array.replicate 460 none
  statics := none }

def pool16 : Array CpInfo := pool [(2, .class_ 4), (1, u "java/lang/Object"), (0, u "<init>"), (0, u "()V"), (17, .class_ 26), (1, u "jdk/internal/util/Preconditions"), (6, u "checkIndex"), (21, .class_ 56), (0, u "jdk/internal/util/Preconditions$4"), (57, .class_ 115), (0, u "jdk/internal/util/Preconditions$1"), (7, u "SIOOBE_FORMATTER"), (0, u "Ljava/util/function/BiFunction;"), (0, .class_ 126), (0, u "jdk/internal/util/Preconditions$2"), (3, u "AIOOBE_FORMATTER"), (0, .class_ 132), (0, u "jdk/internal/util/Preconditions$3"), (3, u "IOOBE_FORMATTER"), (41, u "(IILjava/util/function/BiFunction;)I")] 15

def k16m0 : Method := { name := "<init>", desc := "()V", sig := { parameters := [], returnType := none }, accessFlags := 1, code := none }
def k16c1 : Code := { maxStack := 3, maxLocals := 3, code := jdk_41_method_11_code, exceptionTable := #[], attributes := #[] }
def k16m1 : Method := { name := "checkIndex", desc := "(IILjava/util/function/BiFunction;)I", sig := { parameters := [.int, .int, (.object "java/util/function/BiFunction")], returnType := some .int }, accessFlags := 9, code := some k16c1 }
/-- jdk/internal/util/Preconditions -/
def k16 : Class := { plain "jdk/internal/util/Preconditions" (some 0) with
  accessFlags := 33
  interfaces := #[]
  cf := some (fileOf pool16 24 #[.nestMembers #[55, 131, 125, 114]] #[{ accessFlags := 1, nameIndex := 5, descriptorIndex := 6, attributes := #[] }, { accessFlags := 9, nameIndex := 33, descriptorIndex := 178, attributes := #[] }] 33 2 #[] #[{ accessFlags := 25, nameIndex := 123, descriptorIndex := 124, attributes := #[] }, { accessFlags := 25, nameIndex := 130, descriptorIndex := 124, attributes := #[] }, { accessFlags := 25, nameIndex := 136, descriptorIndex := 124, attributes := #[] }])
  fields := #[{ name := "SIOOBE_FORMATTER", type := (.object "java/util/function/BiFunction"), accessFlags := 25, slot := 0, constantValue := 0 }, { name := "AIOOBE_FORMATTER", type := (.object "java/util/function/BiFunction"), accessFlags := 25, slot := 1, constantValue := 0 }, { name := "IOOBE_FORMATTER", type := (.object "java/util/function/BiFunction"), accessFlags := 25, slot := 2, constantValue := 0 }]
  methods := #[k16m0, k16m1]
  instanceTypes := #[]
  staticTypes := #[(.object "java/util/function/BiFunction"), (.object "java/util/function/BiFunction"), (.object "java/util/function/BiFunction")]
  resolved := Array.replicate 194 none
  statics := some 1 }

def pool17 : Array CpInfo := pool [(6, .class_ 8), (1, u "java/lang/Object"), (0, u "<init>"), (0, u "()V"), (1, .class_ 14), (1, u "java/lang/StringUTF16"), (31, u "$assertionsDisabled"), (0, u "Z"), (13, u "HI_BYTE_SHIFT"), (0, u "I"), (2, u "LO_BYTE_SHIFT"), (49, .methodref 12 116), (0, .nameAndType 117 118), (0, u "compress"), (0, u "([CI[BII)I"), (3, u "([CII)[B"), (138, u "coderFromArrayLen"), (0, u "([BI)B"), (106, .class_ 371), (1, u "java/lang/StringUTF16$LinesSpliterator"), (58, u "MAX_LENGTH"), (196, .class_ 628), (0, u "java/lang/StringUTF16$CodePointsSpliterator"), (0, .class_ 630), (0, u "java/lang/StringUTF16$CharsSpliterator")] 4

def k17m0 : Method := { name := "<init>", desc := "()V", sig := { parameters := [], returnType := none }, accessFlags := 0, code := none }
def k17c1 : Code := { maxStack := 2, maxLocals := 2, code := jdk_52_method_15_code, exceptionTable := #[], attributes := #[] }
def k17m1 : Method := { name := "coderFromArrayLen", desc := "([BI)B", sig := { parameters := [(.array .byte), .int], returnType := some .byte }, accessFlags := 8, code := some k17c1 }
def k17c2 : Code := { maxStack := 5, maxLocals := 6, code := jdk_52_method_16_code, exceptionTable := #[], attributes := #[] }
def k17m2 : Method := { name := "compress", desc := "([CII)[B", sig := { parameters := [(.array .char), .int, .int], returnType := some (.array .byte) }, accessFlags := 9, code := some k17c2 }
def k17c3 : Code := { maxStack := 3, maxLocals := 7, code := jdk_52_method_21_code, exceptionTable := #[], attributes := #[] }
def k17m3 : Method := { name := "compress", desc := "([CI[BII)I", sig := { parameters := [(.array .char), .int, (.array .byte), .int, .int], returnType := some .int }, accessFlags := 9, code := some k17c3 }
/-- java/lang/StringUTF16 -/
def k17 : Class := { plain "java/lang/StringUTF16" (some 0) with
  accessFlags := 48
  interfaces := #[]
  cf := some (fileOf pool17 12 #[.nestMembers #[627, 629, 369]] #[{ accessFlags := 0, nameIndex := 9, descriptorIndex := 10, attributes := #[] }, { accessFlags := 8, nameIndex := 261, descriptorIndex := 262, attributes := #[] }, { accessFlags := 9, nameIndex := 117, descriptorIndex := 122, attributes := #[] }, { accessFlags := 9, nameIndex := 117, descriptorIndex := 118, attributes := #[] }] 48 6 #[] #[{ accessFlags := 26, nameIndex := 61, descriptorIndex := 62, attributes := #[] }, { accessFlags := 26, nameIndex := 65, descriptorIndex := 62, attributes := #[] }, { accessFlags := 24, nameIndex := 430, descriptorIndex := 62, attributes := #[] }, { accessFlags := 4120, nameIndex := 46, descriptorIndex := 47, attributes := #[] }])
  fields := #[{ name := "HI_BYTE_SHIFT", type := .int, accessFlags := 26, slot := 0, constantValue := 0 }, { name := "LO_BYTE_SHIFT", type := .int, accessFlags := 26, slot := 1, constantValue := 0 }, { name := "MAX_LENGTH", type := .int, accessFlags := 24, slot := 2, constantValue := 0 }, { name := "$assertionsDisabled", type := .boolean, accessFlags := 4120, slot := 3, constantValue := 0 }]
  methods := #[k17m0, k17m1, k17m2, k17m3]
  instanceTypes := #[]
  staticTypes := #[.int, .int, .int, .boolean]
  resolved := Array.replicate 635 none
  statics := none }

def pool18 : Array CpInfo := pool [(9, u "<init>"), (6, .class_ 18), (1, u "java/lang/Object"), (0, u "()V"), (1, .class_ 23), (1, u "jdk/internal/util/ArraysSupport"), (0, u "LOG2_ARRAY_LONG_INDEX_SCALE"), (0, u "I"), (2, u "U"), (0, u "Ljdk/internal/misc/Unsafe;"), (8, u "BIG_ENDIAN"), (0, u "Z"), (8, u "LOG2_BYTE_BIT_SIZE"), (4, u "LOG2_ARRAY_INT_INDEX_SCALE"), (54, u "JLA"), (0, u "Ljdk/internal/access/JavaLangAccess;"), (11, u "LOG2_ARRAY_BOOLEAN_INDEX_SCALE"), (9, u "LOG2_ARRAY_BYTE_INDEX_SCALE"), (5, u "LOG2_ARRAY_CHAR_INDEX_SCALE"), (5, u "LOG2_ARRAY_SHORT_INDEX_SCALE"), (18, u "LOG2_ARRAY_FLOAT_INDEX_SCALE"), (24, u "LOG2_ARRAY_DOUBLE_INDEX_SCALE"), (89, u "T_BOOLEAN"), (2, u "T_CHAR"), (1, u "T_FLOAT"), (1, u "T_DOUBLE"), (1, u "T_BYTE"), (1, u "T_SHORT"), (1, u "T_INT"), (1, u "T_LONG"), (1, u "SOFT_MAX_ARRAY_LENGTH")] 83

def k18m0 : Method := { name := "<init>", desc := "()V", sig := { parameters := [], returnType := none }, accessFlags := 2, code := none }
/-- jdk/internal/util/ArraysSupport -/
def k18 : Class := { plain "jdk/internal/util/ArraysSupport" (some 0) with
  accessFlags := 33
  interfaces := #[]
  cf := some (fileOf pool18 21 #[] #[{ accessFlags := 2, nameIndex := 9, descriptorIndex := 19, attributes := #[] }] 33 16 #[] #[{ accessFlags := 24, nameIndex := 28, descriptorIndex := 29, attributes := #[] }, { accessFlags := 26, nameIndex := 38, descriptorIndex := 39, attributes := #[] }, { accessFlags := 25, nameIndex := 121, descriptorIndex := 25, attributes := #[] }, { accessFlags := 25, nameIndex := 131, descriptorIndex := 25, attributes := #[] }, { accessFlags := 25, nameIndex := 137, descriptorIndex := 25, attributes := #[] }, { accessFlags := 25, nameIndex := 143, descriptorIndex := 25, attributes := #[] }, { accessFlags := 25, nameIndex := 53, descriptorIndex := 25, attributes := #[] }, { accessFlags := 25, nameIndex := 24, descriptorIndex := 25, attributes := #[] }, { accessFlags := 25, nameIndex := 162, descriptorIndex := 25, attributes := #[] }, { accessFlags := 25, nameIndex := 187, descriptorIndex := 25, attributes := #[] }, { accessFlags := 26, nameIndex := 48, descriptorIndex := 25, attributes := #[] }, { accessFlags := 25, nameIndex := 277, descriptorIndex := 25, attributes := #[] }, { accessFlags := 25, nameIndex := 280, descriptorIndex := 25, attributes := #[] }, { accessFlags := 25, nameIndex := 282, descriptorIndex := 25, attributes := #[] }, { accessFlags := 25, nameIndex := 284, descriptorIndex := 25, attributes := #[] }, { accessFlags := 25, nameIndex := 286, descriptorIndex := 25, attributes := #[] }, { accessFlags := 25, nameIndex := 288, descriptorIndex := 25, attributes := #[] }, { accessFlags := 25, nameIndex := 290, descriptorIndex := 25, attributes := #[] }, { accessFlags := 25, nameIndex := 292, descriptorIndex := 25, attributes := #[] }, { accessFlags := 26, nameIndex := 108, descriptorIndex := 109, attributes := #[] }, { accessFlags := 25, nameIndex := 294, descriptorIndex := 25, attributes := #[] }])
  fields := #[{ name := "U", type := (.object "jdk/internal/misc/Unsafe"), accessFlags := 24, slot := 0, constantValue := 0 }, { name := "BIG_ENDIAN", type := .boolean, accessFlags := 26, slot := 1, constantValue := 0 }, { name := "LOG2_ARRAY_BOOLEAN_INDEX_SCALE", type := .int, accessFlags := 25, slot := 2, constantValue := 0 }, { name := "LOG2_ARRAY_BYTE_INDEX_SCALE", type := .int, accessFlags := 25, slot := 3, constantValue := 0 }, { name := "LOG2_ARRAY_CHAR_INDEX_SCALE", type := .int, accessFlags := 25, slot := 4, constantValue := 0 }, { name := "LOG2_ARRAY_SHORT_INDEX_SCALE", type := .int, accessFlags := 25, slot := 5, constantValue := 0 }, { name := "LOG2_ARRAY_INT_INDEX_SCALE", type := .int, accessFlags := 25, slot := 6, constantValue := 0 }, { name := "LOG2_ARRAY_LONG_INDEX_SCALE", type := .int, accessFlags := 25, slot := 7, constantValue := 0 }, { name := "LOG2_ARRAY_FLOAT_INDEX_SCALE", type := .int, accessFlags := 25, slot := 8, constantValue := 0 }, { name := "LOG2_ARRAY_DOUBLE_INDEX_SCALE", type := .int, accessFlags := 25, slot := 9, constantValue := 0 }, { name := "LOG2_BYTE_BIT_SIZE", type := .int, accessFlags := 26, slot := 10, constantValue := 0 }, { name := "T_BOOLEAN", type := .int, accessFlags := 25, slot := 11, constantValue := 0 }, { name := "T_CHAR", type := .int, accessFlags := 25, slot := 12, constantValue := 0 }, { name := "T_FLOAT", type := .int, accessFlags := 25, slot := 13, constantValue := 0 }, { name := "T_DOUBLE", type := .int, accessFlags := 25, slot := 14, constantValue := 0 }, { name := "T_BYTE", type := .int, accessFlags := 25, slot := 15, constantValue := 0 }, { name := "T_SHORT", type := .int, accessFlags := 25, slot := 16, constantValue := 0 }, { name := "T_INT", type := .int, accessFlags := 25, slot := 17, constantValue := 0 }, { name := "T_LONG", type := .int, accessFlags := 25, slot := 18, constantValue := 0 }, { name := "JLA", type := (.object "jdk/internal/access/JavaLangAccess"), accessFlags := 26, slot := 19, constantValue := 0 }, { name := "SOFT_MAX_ARRAY_LENGTH", type := .int, accessFlags := 25, slot := 20, constantValue := 0 }]
  methods := #[k18m0]
  instanceTypes := #[]
  staticTypes := #[(.object "jdk/internal/misc/Unsafe"), .boolean, .int, .int, .int, .int, .int, .int, .int, .int, .int, .int, .int, .int, .int, .int, .int, .int, .int, (.object "jdk/internal/access/JavaLangAccess"), .int]
  resolved := Array.replicate 378 none
  statics := none }

def pool19 : Array CpInfo := pool [(1, u "java/lang/Cloneable"), (0, .class_ 1), (0, u "java/lang/Object"), (0, .class_ 3)] 3

/-- java/lang/Cloneable -/
def k19 : Class := { plain "java/lang/Cloneable" (some 0) with
  accessFlags := 1537
  interfaces := #[]
  cf := some (fileOf pool19 2 #[] #[] 1537 4 #[] #[])
  fields := #[]
  methods := #[]
  instanceTypes := #[]
  staticTypes := #[]
  resolved := Array.replicate 8 none
  statics := none }

/-- the primitive byte -/
def k20 : Class := { plain "byte" none with kind := .primitive 'B', accessFlags := 0x411 }
/-- [B -/
def k21 : Class := { plain "[B" (some 0) with kind := .array 20 .byte, interfaces := #[19, 2], accessFlags := 1041 }

/-- the primitive char -/
def k22 : Class := { plain "char" none with kind := .primitive 'C', accessFlags := 0x411 }
/-- [C -/
def k23 : Class := { plain "[C" (some 0) with kind := .array 22 .char, interfaces := #[19, 2], accessFlags := 1041 }

/-- the primitive int -/
def k24 : Class := { plain "int" none with kind := .primitive 'I', accessFlags := 0x411 }
/-- [I -/
def k25 : Class := { plain "[I" (some 0) with kind := .array 24 .int, interfaces := #[19, 2], accessFlags := 1041 }

def heap : Heap := #[{ cls := 7, slots := #[.long 0, .int 1, .null, .int 0, .null, .int 0, .int 0], vm := .statics 7 },
  { cls := 16, slots := #[.null, .null, .null], vm := .statics 16 }]
def classes : Array Class := #[k0, k1, k2, k3, k4, k5, k6, k7, k8, k9, k10, k11, k12, k13, k14, k15, k16, k17, k18, k19, k20, k21, k22, k23, k24, k25]
def interned : List (Array UInt16 × Addr) := []
def slotsUsed : Nat := 10
def theMethod : MethodId := ⟨1, 1⟩
def args0 : Array Value := #[.int 5, .int 16705, .int 66]
def aboutOver (below : List Frame) : State where
  vm := { classes := classes, interned := interned.toArray }
  heap := heap
  slotsUsed := slotsUsed
  threads := #[{ frames := .invoking theMethod args0 :: below }]
def below0 : List Frame := [.native { method := ⟨0, 0⟩, args := #[] }]
def about1 : State := aboutOver below0
def p0 : Program := .bare "" "" ""
def e0 : Env := launch0.env 0 0 0
theorem w_frames : about1.frames = Frame.invoking theMethod args0 :: below0 := rfl
set_option maxRecDepth 65536 in
theorem w_args : argsFit about1.vm theMethod args0 = true := by decide +kernel
set_option maxRecDepth 65536 in
theorem w_heap : heapFits about1 = true := by decide +kernel
set_option maxRecDepth 65536 in
theorem w_runnable : about1.curStatus? = some .runnable := by decide +kernel
set_option maxRecDepth 65536 in
theorem w_alone : about1.alone = true := by decide +kernel
set_option maxRecDepth 65536 in
theorem w_named : about1.methodNamed? x = some theMethod := by decide +kernel
set_option maxRecDepth 65536 in
theorem w_hears : about1.hears theMethod below0 = true := by decide +kernel
set_option maxRecDepth 65536 in
theorem w_ripe : about1.ripe theMethod args0 below0 = true := by decide +kernel
theorem w_running : about1.status = .running := rfl
set_option maxRecDepth 65536 in
theorem w_room : about1.hasRoom e0.platform room_1 = true :=
  launch0.hasRoom_least _ room_1 (by decide +kernel) (by decide +kernel) (by decide +kernel) (by decide +kernel) (by decide +kernel) (by decide +kernel)
theorem allAtoms_all (ts : List Jvm.Cond) (a : Array Jvm.Value) (st : Jvm.State) : (allAtoms ts).before a st = ts.all (fun c => c.before a st) := by
  induction ts with
  | nil => rfl
  | cons c t ih =>
    show (Jvm.Cond.and c (allAtoms t)).before a st = _
    rw [Jvm.Cond.before_and, ih, List.all_cons]
def words1 : List Jvm.Cond := Jvm.Cond.code x code maxLocals ret :: tables_1
/-- a 'code' word, met by the world's own term for the bytes: nothing is compared byte by byte -/
theorem code_word {y : MethodName} {bytes : ByteArray} {mx : Nat} {rt : Option FieldType} {a : Array Value} {s : State} {m : MethodId} {meth : Method} {c : Code} (h1 : s.methodNamed? y = some m) (h2 : s.vm.method? m = some meth) (h3 : meth.code = some c) (h4 : c.code = bytes)
    (h5 : (c.maxLocals == mx && c.exceptionTable.isEmpty && decide (c.maxStack ≤ mostOperands) && decide (meth.sig.returnType = rt) && !meth.locks && decide (parseMethodDescriptor y.desc = some meth.sig)) = true) : (Jvm.Cond.code y bytes mx rt).before a s = true := by
  simp only [Bool.and_eq_true, beq_iff_eq, Bool.not_eq_true', decide_eq_true_eq] at h5
  obtain ⟨⟨⟨⟨⟨g1, g2⟩, g3⟩, g4⟩, g5⟩, g6⟩ := h5
  simp [Cond.before, Cond.holds, Cond.value, h1, h2, h3, h4, g1, g2, g3, g4, g5, g6]
def isCode : Jvm.Cond → Bool
  | .code _ _ _ _ => true
  | _ => false
theorem all_split {L : List Jvm.Cond} {P : Jvm.Cond → Bool} (h1 : L.all (fun c => isCode c || P c) = true) (h2 : ∀ c ∈ L.filter isCode, P c = true) : L.all P = true := by
  refine List.all_eq_true.mpr fun c hc => ?_
  have h := List.all_eq_true.mp h1 c hc
  rcases Bool.eq_false_or_eq_true (isCode c) with hi | hi
  · exact h2 c (List.mem_filter.mpr ⟨hc, hi⟩)
  · simpa [hi] using h
set_option maxRecDepth 65536 in
theorem w_c0 : (Jvm.Cond.code x code maxLocals ret).before args0 about1 = true := code_word (m := ⟨1, 1⟩) (meth := k1m1) (c := k1c1) (by decide +kernel) rfl rfl rfl (by decide +kernel)
set_option maxRecDepth 65536 in
theorem w_c1 : (Jvm.Cond.code ({ cls := "com/example/tidy_drawings/tidydrawings/HtmlClosePinLaw", name := "str", desc := "(ICCC)Ljava/lang/String;" } : Jvm.MethodName) method_5_code (4 : Nat) (Option.some (Jvm.ClassFile.FieldType.object "java/lang/String"))).before args0 about1 = true := code_word (m := ⟨1, 4⟩) (meth := k1m4) (c := k1c4) (by decide +kernel) rfl rfl rfl (by decide +kernel)
set_option maxRecDepth 65536 in
theorem w_c2 : (Jvm.Cond.code ({ cls := "java/lang/String", name := "<init>", desc := "([C)V" } : Jvm.MethodName) jdk_42_method_3_code (2 : Nat) (Option.none : Option Jvm.ClassFile.FieldType)).before args0 about1 = true := code_word (m := ⟨7, 1⟩) (meth := k7m1) (c := k7c1) (by decide +kernel) rfl rfl rfl (by decide +kernel)
set_option maxRecDepth 65536 in
theorem w_c3 : (Jvm.Cond.code ({ cls := "java/lang/String", name := "<init>", desc := "([CIILjava/lang/Void;)V" } : Jvm.MethodName) jdk_42_method_149_code (6 : Nat) (Option.none : Option Jvm.ClassFile.FieldType)).before args0 about1 = true := code_word (m := ⟨7, 6⟩) (meth := k7m6) (c := k7c6) (by decide +kernel) rfl rfl rfl (by decide +kernel)
set_option maxRecDepth 65536 in
theorem w_c4 : (Jvm.Cond.code ({ cls := "java/lang/Object", name := "<init>", desc := "()V" } : Jvm.MethodName) object_method_1_code (1 : Nat) (Option.none : Option Jvm.ClassFile.FieldType)).before args0 about1 = true := code_word (m := ⟨0, 0⟩) (meth := k0m0) (c := k0c0) (by decide +kernel) rfl rfl rfl (by decide +kernel)
set_option maxRecDepth 65536 in
theorem w_c5 : (Jvm.Cond.code ({ cls := "com/example/tidy_drawings/tidydrawings/Html", name := "<init>", desc := "()V" } : Jvm.MethodName) prog_12_method_1_code (1 : Nat) (Option.none : Option Jvm.ClassFile.FieldType)).before args0 about1 = true := code_word (m := ⟨8, 0⟩) (meth := k8m0) (c := k8c0) (by decide +kernel) rfl rfl rfl (by decide +kernel)
set_option maxRecDepth 65536 in
theorem w_c6 : (Jvm.Cond.code ({ cls := "java/lang/StringBuilder", name := "<init>", desc := "()V" } : Jvm.MethodName) jdk_67_method_1_code (1 : Nat) (Option.none : Option Jvm.ClassFile.FieldType)).before args0 about1 = true := code_word (m := ⟨11, 0⟩) (meth := k11m0) (c := k11c0) (by decide +kernel) rfl rfl rfl (by decide +kernel)
set_option maxRecDepth 65536 in
theorem w_c7 : (Jvm.Cond.code ({ cls := "java/lang/AbstractStringBuilder", name := "<init>", desc := "(I)V" } : Jvm.MethodName) jdk_68_method_2_code (2 : Nat) (Option.none : Option Jvm.ClassFile.FieldType)).before args0 about1 = true := code_word (m := ⟨10, 1⟩) (meth := k10m1) (c := k10c1) (by decide +kernel) rfl rfl rfl (by decide +kernel)
set_option maxRecDepth 65536 in
theorem w_c8 : (Jvm.Cond.code ({ cls := "com/example/tidy_drawings/tidydrawings/Html", name := "close", desc := "(Ljava/lang/String;)Lcom/example/tidy_drawings/tidydrawings/Html;" } : Jvm.MethodName) prog_12_method_3_code (2 : Nat) (Option.some (Jvm.ClassFile.FieldType.object "com/example/tidy_drawings/tidydrawings/Html"))).before args0 about1 = true := code_word (m := ⟨8, 1⟩) (meth := k8m1) (c := k8c1) (by decide +kernel) rfl rfl rfl (by decide +kernel)
set_option maxRecDepth 65536 in
theorem w_c9 : (Jvm.Cond.code ({ cls := "java/lang/StringBuilder", name := "append", desc := "(Ljava/lang/String;)Ljava/lang/StringBuilder;" } : Jvm.MethodName) jdk_67_method_7_code (2 : Nat) (Option.some (Jvm.ClassFile.FieldType.object "java/lang/StringBuilder"))).before args0 about1 = true := code_word (m := ⟨11, 1⟩) (meth := k11m1) (c := k11c1) (by decide +kernel) rfl rfl rfl (by decide +kernel)
set_option maxRecDepth 65536 in
theorem w_c10 : (Jvm.Cond.code ({ cls := "java/lang/AbstractStringBuilder", name := "append", desc := "(Ljava/lang/String;)Ljava/lang/AbstractStringBuilder;" } : Jvm.MethodName) jdk_68_method_22_code (3 : Nat) (Option.some (Jvm.ClassFile.FieldType.object "java/lang/AbstractStringBuilder"))).before args0 about1 = true := code_word (m := ⟨10, 4⟩) (meth := k10m4) (c := k10c4) (by decide +kernel) rfl rfl rfl (by decide +kernel)
set_option maxRecDepth 65536 in
theorem w_c11 : (Jvm.Cond.code ({ cls := "java/lang/String", name := "length", desc := "()I" } : Jvm.MethodName) jdk_42_method_54_code (1 : Nat) (Option.some Jvm.ClassFile.FieldType.int)).before args0 about1 = true := code_word (m := ⟨7, 3⟩) (meth := k7m3) (c := k7c3) (by decide +kernel) rfl rfl rfl (by decide +kernel)
set_option maxRecDepth 65536 in
theorem w_c12 : (Jvm.Cond.code ({ cls := "java/lang/String", name := "coder", desc := "()B" } : Jvm.MethodName) jdk_42_method_152_code (1 : Nat) (Option.some Jvm.ClassFile.FieldType.byte)).before args0 about1 = true := code_word (m := ⟨7, 8⟩) (meth := k7m8) (c := k7c8) (by decide +kernel) rfl rfl rfl (by decide +kernel)
set_option maxRecDepth 65536 in
theorem w_c13 : (Jvm.Cond.code ({ cls := "java/lang/AbstractStringBuilder", name := "ensureCapacityInternal", desc := "(I)V" } : Jvm.MethodName) jdk_68_method_9_code (3 : Nat) (Option.none : Option Jvm.ClassFile.FieldType)).before args0 about1 = true := code_word (m := ⟨10, 3⟩) (meth := k10m3) (c := k10c3) (by decide +kernel) rfl rfl rfl (by decide +kernel)
set_option maxRecDepth 65536 in
theorem w_c14 : (Jvm.Cond.code ({ cls := "java/lang/AbstractStringBuilder", name := "putStringAt", desc := "(ILjava/lang/String;)V" } : Jvm.MethodName) jdk_68_method_73_code (3 : Nat) (Option.none : Option Jvm.ClassFile.FieldType)).before args0 about1 = true := code_word (m := ⟨10, 9⟩) (meth := k10m9) (c := k10c9) (by decide +kernel) rfl rfl rfl (by decide +kernel)
set_option maxRecDepth 65536 in
theorem w_c15 : (Jvm.Cond.code ({ cls := "java/lang/AbstractStringBuilder", name := "inflateIfNeededFor", desc := "(Ljava/lang/String;)V" } : Jvm.MethodName) jdk_68_method_71_code (2 : Nat) (Option.none : Option Jvm.ClassFile.FieldType)).before args0 about1 = true := code_word (m := ⟨10, 8⟩) (meth := k10m8) (c := k10c8) (by decide +kernel) rfl rfl rfl (by decide +kernel)
set_option maxRecDepth 65536 in
theorem w_c16 : (Jvm.Cond.code ({ cls := "java/lang/String", name := "getBytes", desc := "([BIB)V" } : Jvm.MethodName) jdk_42_method_147_code (4 : Nat) (Option.none : Option Jvm.ClassFile.FieldType)).before args0 about1 = true := code_word (m := ⟨7, 5⟩) (meth := k7m5) (c := k7c5) (by decide +kernel) rfl rfl rfl (by decide +kernel)
set_option maxRecDepth 65536 in
theorem w_c17 : (Jvm.Cond.code ({ cls := "java/lang/StringBuilder", name := "append", desc := "(C)Ljava/lang/StringBuilder;" } : Jvm.MethodName) jdk_67_method_14_code (2 : Nat) (Option.some (Jvm.ClassFile.FieldType.object "java/lang/StringBuilder"))).before args0 about1 = true := code_word (m := ⟨11, 2⟩) (meth := k11m2) (c := k11c2) (by decide +kernel) rfl rfl rfl (by decide +kernel)
set_option maxRecDepth 65536 in
theorem w_c18 : (Jvm.Cond.code ({ cls := "java/lang/AbstractStringBuilder", name := "append", desc := "(C)Ljava/lang/AbstractStringBuilder;" } : Jvm.MethodName) jdk_68_method_31_code (2 : Nat) (Option.some (Jvm.ClassFile.FieldType.object "java/lang/AbstractStringBuilder"))).before args0 about1 = true := code_word (m := ⟨10, 5⟩) (meth := k10m5) (c := k10c5) (by decide +kernel) rfl rfl rfl (by decide +kernel)
set_option maxRecDepth 65536 in
theorem w_c19 : (Jvm.Cond.code ({ cls := "java/lang/AbstractStringBuilder", name := "isLatin1", desc := "()Z" } : Jvm.MethodName) jdk_68_method_68_code (1 : Nat) (Option.some Jvm.ClassFile.FieldType.boolean)).before args0 about1 = true := code_word (m := ⟨10, 7⟩) (meth := k10m7) (c := k10c7) (by decide +kernel) rfl rfl rfl (by decide +kernel)
set_option maxRecDepth 65536 in
theorem w_c20 : (Jvm.Cond.code ({ cls := "java/lang/StringLatin1", name := "canEncode", desc := "(C)Z" } : Jvm.MethodName) jdk_43_method_3_code (1 : Nat) (Option.some Jvm.ClassFile.FieldType.boolean)).before args0 about1 = true := code_word (m := ⟨13, 2⟩) (meth := k13m2) (c := k13c2) (by decide +kernel) rfl rfl rfl (by decide +kernel)
set_option maxRecDepth 65536 in
theorem w_c21 : (Jvm.Cond.code ({ cls := "com/example/tidy_drawings/tidydrawings/Html", name := "toString", desc := "()Ljava/lang/String;" } : Jvm.MethodName) prog_12_method_7_code (1 : Nat) (Option.some (Jvm.ClassFile.FieldType.object "java/lang/String"))).before args0 about1 = true := code_word (m := ⟨8, 3⟩) (meth := k8m3) (c := k8c3) (by decide +kernel) rfl rfl rfl (by decide +kernel)
set_option maxRecDepth 65536 in
theorem w_c22 : (Jvm.Cond.code ({ cls := "java/lang/StringBuilder", name := "toString", desc := "()Ljava/lang/String;" } : Jvm.MethodName) jdk_67_method_42_code (1 : Nat) (Option.some (Jvm.ClassFile.FieldType.object "java/lang/String"))).before args0 about1 = true := code_word (m := ⟨11, 3⟩) (meth := k11m3) (c := k11c3) (by decide +kernel) rfl rfl rfl (by decide +kernel)
set_option maxRecDepth 65536 in
theorem w_c23 : (Jvm.Cond.code ({ cls := "java/lang/String", name := "<init>", desc := "(Ljava/lang/StringBuilder;)V" } : Jvm.MethodName) jdk_42_method_53_code (2 : Nat) (Option.none : Option Jvm.ClassFile.FieldType)).before args0 about1 = true := code_word (m := ⟨7, 2⟩) (meth := k7m2) (c := k7c2) (by decide +kernel) rfl rfl rfl (by decide +kernel)
set_option maxRecDepth 65536 in
theorem w_c24 : (Jvm.Cond.code ({ cls := "java/lang/String", name := "<init>", desc := "(Ljava/lang/AbstractStringBuilder;Ljava/lang/Void;)V" } : Jvm.MethodName) jdk_42_method_150_code (5 : Nat) (Option.none : Option Jvm.ClassFile.FieldType)).before args0 about1 = true := code_word (m := ⟨7, 7⟩) (meth := k7m7) (c := k7c7) (by decide +kernel) rfl rfl rfl (by decide +kernel)
set_option maxRecDepth 65536 in
theorem w_c25 : (Jvm.Cond.code ({ cls := "java/lang/AbstractStringBuilder", name := "getValue", desc := "()[B" } : Jvm.MethodName) jdk_68_method_64_code (1 : Nat) (Option.some (Jvm.ClassFile.FieldType.array Jvm.ClassFile.FieldType.byte))).before args0 about1 = true := code_word (m := ⟨10, 6⟩) (meth := k10m6) (c := k10c6) (by decide +kernel) rfl rfl rfl (by decide +kernel)
set_option maxRecDepth 65536 in
theorem w_c26 : (Jvm.Cond.code ({ cls := "java/lang/StringBuilder", name := "length", desc := "()I" } : Jvm.MethodName) jdk_67_method_93_code (1 : Nat) (Option.some Jvm.ClassFile.FieldType.int)).before args0 about1 = true := code_word (m := ⟨11, 4⟩) (meth := k11m4) (c := k11c4) (by decide +kernel) rfl rfl rfl (by decide +kernel)
set_option maxRecDepth 65536 in
theorem w_c27 : (Jvm.Cond.code ({ cls := "java/lang/AbstractStringBuilder", name := "length", desc := "()I" } : Jvm.MethodName) jdk_68_method_6_code (1 : Nat) (Option.some Jvm.ClassFile.FieldType.int)).before args0 about1 = true := code_word (m := ⟨10, 2⟩) (meth := k10m2) (c := k10c2) (by decide +kernel) rfl rfl rfl (by decide +kernel)
set_option maxRecDepth 65536 in
theorem w_c28 : (Jvm.Cond.code ({ cls := "java/util/Arrays", name := "copyOfRange", desc := "([BII)[B" } : Jvm.MethodName) jdk_65_method_132_code (3 : Nat) (Option.some (Jvm.ClassFile.FieldType.array Jvm.ClassFile.FieldType.byte))).before args0 about1 = true := code_word (m := ⟨14, 2⟩) (meth := k14m2) (c := k14c2) (by decide +kernel) rfl rfl rfl (by decide +kernel)
set_option maxRecDepth 65536 in
theorem w_c29 : (Jvm.Cond.code ({ cls := "java/util/Arrays", name := "copyOfRangeByte", desc := "([BII)[B" } : Jvm.MethodName) jdk_65_method_133_code (5 : Nat) (Option.some (Jvm.ClassFile.FieldType.array Jvm.ClassFile.FieldType.byte))).before args0 about1 = true := code_word (m := ⟨14, 3⟩) (meth := k14m3) (c := k14c3) (by decide +kernel) rfl rfl rfl (by decide +kernel)
set_option maxRecDepth 65536 in
theorem w_c30 : (Jvm.Cond.code ({ cls := "java/util/Arrays", name := "checkLength", desc := "(II)V" } : Jvm.MethodName) jdk_65_method_131_code (2 : Nat) (Option.none : Option Jvm.ClassFile.FieldType)).before args0 about1 = true := code_word (m := ⟨14, 1⟩) (meth := k14m1) (c := k14c1) (by decide +kernel) rfl rfl rfl (by decide +kernel)
set_option maxRecDepth 65536 in
theorem w_c31 : (Jvm.Cond.code ({ cls := "java/lang/Math", name := "min", desc := "(II)I" } : Jvm.MethodName) jdk_29_method_69_code (2 : Nat) (Option.some Jvm.ClassFile.FieldType.int)).before args0 about1 = true := code_word (m := ⟨15, 1⟩) (meth := k15m1) (c := k15c1) (by decide +kernel) rfl rfl rfl (by decide +kernel)
set_option maxRecDepth 65536 in
theorem w_c32 : (Jvm.Cond.code ({ cls := "com/example/tidy_drawings/tidydrawings/HtmlClosePinLaw", name := "at", desc := "(Ljava/lang/String;IIIICCCCC)Z" } : Jvm.MethodName) method_3_code (10 : Nat) (Option.some Jvm.ClassFile.FieldType.boolean)).before args0 about1 = true := code_word (m := ⟨1, 2⟩) (meth := k1m2) (c := k1c2) (by decide +kernel) rfl rfl rfl (by decide +kernel)
set_option maxRecDepth 65536 in
theorem w_c33 : (Jvm.Cond.code ({ cls := "java/lang/String", name := "charAt", desc := "(I)C" } : Jvm.MethodName) jdk_42_method_56_code (2 : Nat) (Option.some Jvm.ClassFile.FieldType.char)).before args0 about1 = true := code_word (m := ⟨7, 4⟩) (meth := k7m4) (c := k7c4) (by decide +kernel) rfl rfl rfl (by decide +kernel)
set_option maxRecDepth 65536 in
theorem w_c34 : (Jvm.Cond.code ({ cls := "java/lang/String", name := "isLatin1", desc := "()Z" } : Jvm.MethodName) jdk_42_method_154_code (1 : Nat) (Option.some Jvm.ClassFile.FieldType.boolean)).before args0 about1 = true := code_word (m := ⟨7, 9⟩) (meth := k7m9) (c := k7c9) (by decide +kernel) rfl rfl rfl (by decide +kernel)
set_option maxRecDepth 65536 in
theorem w_c35 : (Jvm.Cond.code ({ cls := "java/lang/StringLatin1", name := "charAt", desc := "([BI)C" } : Jvm.MethodName) jdk_43_method_2_code (2 : Nat) (Option.some Jvm.ClassFile.FieldType.char)).before args0 about1 = true := code_word (m := ⟨13, 1⟩) (meth := k13m1) (c := k13c1) (by decide +kernel) rfl rfl rfl (by decide +kernel)
set_option maxRecDepth 65536 in
theorem w_c36 : (Jvm.Cond.code ({ cls := "java/lang/String", name := "checkIndex", desc := "(II)V" } : Jvm.MethodName) jdk_42_method_155_code (2 : Nat) (Option.none : Option Jvm.ClassFile.FieldType)).before args0 about1 = true := code_word (m := ⟨7, 10⟩) (meth := k7m10) (c := k7c10) (by decide +kernel) rfl rfl rfl (by decide +kernel)
set_option maxRecDepth 65536 in
theorem w_c37 : (Jvm.Cond.code ({ cls := "jdk/internal/util/Preconditions", name := "checkIndex", desc := "(IILjava/util/function/BiFunction;)I" } : Jvm.MethodName) jdk_41_method_11_code (3 : Nat) (Option.some Jvm.ClassFile.FieldType.int)).before args0 about1 = true := code_word (m := ⟨16, 1⟩) (meth := k16m1) (c := k16c1) (by decide +kernel) rfl rfl rfl (by decide +kernel)
set_option maxRecDepth 65536 in
theorem w_c38 : (Jvm.Cond.code ({ cls := "com/example/tidy_drawings/tidydrawings/HtmlClosePinLaw", name := "exp", desc := "(IIICCCCC)C" } : Jvm.MethodName) method_4_code (10 : Nat) (Option.some Jvm.ClassFile.FieldType.char)).before args0 about1 = true := code_word (m := ⟨1, 3⟩) (meth := k1m3) (c := k1c3) (by decide +kernel) rfl rfl rfl (by decide +kernel)
set_option maxRecDepth 65536 in
theorem w_c39 : (Jvm.Cond.code ({ cls := "java/lang/StringUTF16", name := "compress", desc := "([CII)[B" } : Jvm.MethodName) jdk_52_method_16_code (6 : Nat) (Option.some (Jvm.ClassFile.FieldType.array Jvm.ClassFile.FieldType.byte))).before args0 about1 = true := code_word (m := ⟨17, 2⟩) (meth := k17m2) (c := k17c2) (by decide +kernel) rfl rfl rfl (by decide +kernel)
set_option maxRecDepth 65536 in
theorem w_c40 : (Jvm.Cond.code ({ cls := "java/lang/StringUTF16", name := "compress", desc := "([CI[BII)I" } : Jvm.MethodName) jdk_52_method_21_code (7 : Nat) (Option.some Jvm.ClassFile.FieldType.int)).before args0 about1 = true := code_word (m := ⟨17, 3⟩) (meth := k17m3) (c := k17c3) (by decide +kernel) rfl rfl rfl (by decide +kernel)
set_option maxRecDepth 65536 in
theorem w_c41 : (Jvm.Cond.code ({ cls := "java/lang/StringUTF16", name := "coderFromArrayLen", desc := "([BI)B" } : Jvm.MethodName) jdk_52_method_15_code (2 : Nat) (Option.some Jvm.ClassFile.FieldType.byte)).before args0 about1 = true := code_word (m := ⟨17, 1⟩) (meth := k17m1) (c := k17c1) (by decide +kernel) rfl rfl rfl (by decide +kernel)
set_option maxRecDepth 65536 in
theorem w_c42 : (Jvm.Cond.code ({ cls := "com/example/tidy_drawings/tidydrawings/Html", name := "markup", desc := "(Ljava/lang/String;)Lcom/example/tidy_drawings/tidydrawings/Html;" } : Jvm.MethodName) prog_12_method_6_code (2 : Nat) (Option.some (Jvm.ClassFile.FieldType.object "com/example/tidy_drawings/tidydrawings/Html"))).before args0 about1 = true := code_word (m := ⟨8, 2⟩) (meth := k8m2) (c := k8c2) (by decide +kernel) rfl rfl rfl (by decide +kernel)
def codes1 : List Jvm.Cond := [Jvm.Cond.code x code maxLocals ret, Jvm.Cond.code ({ cls := "com/example/tidy_drawings/tidydrawings/HtmlClosePinLaw", name := "str", desc := "(ICCC)Ljava/lang/String;" } : Jvm.MethodName) method_5_code (4 : Nat) (Option.some (Jvm.ClassFile.FieldType.object "java/lang/String")), Jvm.Cond.code ({ cls := "java/lang/String", name := "<init>", desc := "([C)V" } : Jvm.MethodName) jdk_42_method_3_code (2 : Nat) (Option.none : Option Jvm.ClassFile.FieldType), Jvm.Cond.code ({ cls := "java/lang/String", name := "<init>", desc := "([CIILjava/lang/Void;)V" } : Jvm.MethodName) jdk_42_method_149_code (6 : Nat) (Option.none : Option Jvm.ClassFile.FieldType), Jvm.Cond.code ({ cls := "java/lang/Object", name := "<init>", desc := "()V" } : Jvm.MethodName) object_method_1_code (1 : Nat) (Option.none : Option Jvm.ClassFile.FieldType), Jvm.Cond.code ({ cls := "com/example/tidy_drawings/tidydrawings/Html", name := "<init>", desc := "()V" } : Jvm.MethodName) prog_12_method_1_code (1 : Nat) (Option.none : Option Jvm.ClassFile.FieldType), Jvm.Cond.code ({ cls := "java/lang/StringBuilder", name := "<init>", desc := "()V" } : Jvm.MethodName) jdk_67_method_1_code (1 : Nat) (Option.none : Option Jvm.ClassFile.FieldType), Jvm.Cond.code ({ cls := "java/lang/AbstractStringBuilder", name := "<init>", desc := "(I)V" } : Jvm.MethodName) jdk_68_method_2_code (2 : Nat) (Option.none : Option Jvm.ClassFile.FieldType), Jvm.Cond.code ({ cls := "com/example/tidy_drawings/tidydrawings/Html", name := "close", desc := "(Ljava/lang/String;)Lcom/example/tidy_drawings/tidydrawings/Html;" } : Jvm.MethodName) prog_12_method_3_code (2 : Nat) (Option.some (Jvm.ClassFile.FieldType.object "com/example/tidy_drawings/tidydrawings/Html")), Jvm.Cond.code ({ cls := "java/lang/StringBuilder", name := "append", desc := "(Ljava/lang/String;)Ljava/lang/StringBuilder;" } : Jvm.MethodName) jdk_67_method_7_code (2 : Nat) (Option.some (Jvm.ClassFile.FieldType.object "java/lang/StringBuilder")), Jvm.Cond.code ({ cls := "java/lang/AbstractStringBuilder", name := "append", desc := "(Ljava/lang/String;)Ljava/lang/AbstractStringBuilder;" } : Jvm.MethodName) jdk_68_method_22_code (3 : Nat) (Option.some (Jvm.ClassFile.FieldType.object "java/lang/AbstractStringBuilder")), Jvm.Cond.code ({ cls := "java/lang/String", name := "length", desc := "()I" } : Jvm.MethodName) jdk_42_method_54_code (1 : Nat) (Option.some Jvm.ClassFile.FieldType.int), Jvm.Cond.code ({ cls := "java/lang/String", name := "coder", desc := "()B" } : Jvm.MethodName) jdk_42_method_152_code (1 : Nat) (Option.some Jvm.ClassFile.FieldType.byte), Jvm.Cond.code ({ cls := "java/lang/AbstractStringBuilder", name := "ensureCapacityInternal", desc := "(I)V" } : Jvm.MethodName) jdk_68_method_9_code (3 : Nat) (Option.none : Option Jvm.ClassFile.FieldType), Jvm.Cond.code ({ cls := "java/lang/AbstractStringBuilder", name := "putStringAt", desc := "(ILjava/lang/String;)V" } : Jvm.MethodName) jdk_68_method_73_code (3 : Nat) (Option.none : Option Jvm.ClassFile.FieldType), Jvm.Cond.code ({ cls := "java/lang/AbstractStringBuilder", name := "inflateIfNeededFor", desc := "(Ljava/lang/String;)V" } : Jvm.MethodName) jdk_68_method_71_code (2 : Nat) (Option.none : Option Jvm.ClassFile.FieldType), Jvm.Cond.code ({ cls := "java/lang/String", name := "getBytes", desc := "([BIB)V" } : Jvm.MethodName) jdk_42_method_147_code (4 : Nat) (Option.none : Option Jvm.ClassFile.FieldType), Jvm.Cond.code ({ cls := "java/lang/StringBuilder", name := "append", desc := "(C)Ljava/lang/StringBuilder;" } : Jvm.MethodName) jdk_67_method_14_code (2 : Nat) (Option.some (Jvm.ClassFile.FieldType.object "java/lang/StringBuilder")), Jvm.Cond.code ({ cls := "java/lang/AbstractStringBuilder", name := "append", desc := "(C)Ljava/lang/AbstractStringBuilder;" } : Jvm.MethodName) jdk_68_method_31_code (2 : Nat) (Option.some (Jvm.ClassFile.FieldType.object "java/lang/AbstractStringBuilder")), Jvm.Cond.code ({ cls := "java/lang/AbstractStringBuilder", name := "isLatin1", desc := "()Z" } : Jvm.MethodName) jdk_68_method_68_code (1 : Nat) (Option.some Jvm.ClassFile.FieldType.boolean), Jvm.Cond.code ({ cls := "java/lang/StringLatin1", name := "canEncode", desc := "(C)Z" } : Jvm.MethodName) jdk_43_method_3_code (1 : Nat) (Option.some Jvm.ClassFile.FieldType.boolean), Jvm.Cond.code ({ cls := "com/example/tidy_drawings/tidydrawings/Html", name := "toString", desc := "()Ljava/lang/String;" } : Jvm.MethodName) prog_12_method_7_code (1 : Nat) (Option.some (Jvm.ClassFile.FieldType.object "java/lang/String")), Jvm.Cond.code ({ cls := "java/lang/StringBuilder", name := "toString", desc := "()Ljava/lang/String;" } : Jvm.MethodName) jdk_67_method_42_code (1 : Nat) (Option.some (Jvm.ClassFile.FieldType.object "java/lang/String")), Jvm.Cond.code ({ cls := "java/lang/String", name := "<init>", desc := "(Ljava/lang/StringBuilder;)V" } : Jvm.MethodName) jdk_42_method_53_code (2 : Nat) (Option.none : Option Jvm.ClassFile.FieldType), Jvm.Cond.code ({ cls := "java/lang/String", name := "<init>", desc := "(Ljava/lang/AbstractStringBuilder;Ljava/lang/Void;)V" } : Jvm.MethodName) jdk_42_method_150_code (5 : Nat) (Option.none : Option Jvm.ClassFile.FieldType), Jvm.Cond.code ({ cls := "java/lang/AbstractStringBuilder", name := "getValue", desc := "()[B" } : Jvm.MethodName) jdk_68_method_64_code (1 : Nat) (Option.some (Jvm.ClassFile.FieldType.array Jvm.ClassFile.FieldType.byte)), Jvm.Cond.code ({ cls := "java/lang/StringBuilder", name := "length", desc := "()I" } : Jvm.MethodName) jdk_67_method_93_code (1 : Nat) (Option.some Jvm.ClassFile.FieldType.int), Jvm.Cond.code ({ cls := "java/lang/AbstractStringBuilder", name := "length", desc := "()I" } : Jvm.MethodName) jdk_68_method_6_code (1 : Nat) (Option.some Jvm.ClassFile.FieldType.int), Jvm.Cond.code ({ cls := "java/util/Arrays", name := "copyOfRange", desc := "([BII)[B" } : Jvm.MethodName) jdk_65_method_132_code (3 : Nat) (Option.some (Jvm.ClassFile.FieldType.array Jvm.ClassFile.FieldType.byte)), Jvm.Cond.code ({ cls := "java/util/Arrays", name := "copyOfRangeByte", desc := "([BII)[B" } : Jvm.MethodName) jdk_65_method_133_code (5 : Nat) (Option.some (Jvm.ClassFile.FieldType.array Jvm.ClassFile.FieldType.byte)), Jvm.Cond.code ({ cls := "java/util/Arrays", name := "checkLength", desc := "(II)V" } : Jvm.MethodName) jdk_65_method_131_code (2 : Nat) (Option.none : Option Jvm.ClassFile.FieldType), Jvm.Cond.code ({ cls := "java/lang/Math", name := "min", desc := "(II)I" } : Jvm.MethodName) jdk_29_method_69_code (2 : Nat) (Option.some Jvm.ClassFile.FieldType.int), Jvm.Cond.code ({ cls := "com/example/tidy_drawings/tidydrawings/HtmlClosePinLaw", name := "at", desc := "(Ljava/lang/String;IIIICCCCC)Z" } : Jvm.MethodName) method_3_code (10 : Nat) (Option.some Jvm.ClassFile.FieldType.boolean), Jvm.Cond.code ({ cls := "java/lang/String", name := "charAt", desc := "(I)C" } : Jvm.MethodName) jdk_42_method_56_code (2 : Nat) (Option.some Jvm.ClassFile.FieldType.char), Jvm.Cond.code ({ cls := "java/lang/String", name := "isLatin1", desc := "()Z" } : Jvm.MethodName) jdk_42_method_154_code (1 : Nat) (Option.some Jvm.ClassFile.FieldType.boolean), Jvm.Cond.code ({ cls := "java/lang/StringLatin1", name := "charAt", desc := "([BI)C" } : Jvm.MethodName) jdk_43_method_2_code (2 : Nat) (Option.some Jvm.ClassFile.FieldType.char), Jvm.Cond.code ({ cls := "java/lang/String", name := "checkIndex", desc := "(II)V" } : Jvm.MethodName) jdk_42_method_155_code (2 : Nat) (Option.none : Option Jvm.ClassFile.FieldType), Jvm.Cond.code ({ cls := "jdk/internal/util/Preconditions", name := "checkIndex", desc := "(IILjava/util/function/BiFunction;)I" } : Jvm.MethodName) jdk_41_method_11_code (3 : Nat) (Option.some Jvm.ClassFile.FieldType.int), Jvm.Cond.code ({ cls := "com/example/tidy_drawings/tidydrawings/HtmlClosePinLaw", name := "exp", desc := "(IIICCCCC)C" } : Jvm.MethodName) method_4_code (10 : Nat) (Option.some Jvm.ClassFile.FieldType.char), Jvm.Cond.code ({ cls := "java/lang/StringUTF16", name := "compress", desc := "([CII)[B" } : Jvm.MethodName) jdk_52_method_16_code (6 : Nat) (Option.some (Jvm.ClassFile.FieldType.array Jvm.ClassFile.FieldType.byte)), Jvm.Cond.code ({ cls := "java/lang/StringUTF16", name := "compress", desc := "([CI[BII)I" } : Jvm.MethodName) jdk_52_method_21_code (7 : Nat) (Option.some Jvm.ClassFile.FieldType.int), Jvm.Cond.code ({ cls := "java/lang/StringUTF16", name := "coderFromArrayLen", desc := "([BI)B" } : Jvm.MethodName) jdk_52_method_15_code (2 : Nat) (Option.some Jvm.ClassFile.FieldType.byte), Jvm.Cond.code ({ cls := "com/example/tidy_drawings/tidydrawings/Html", name := "markup", desc := "(Ljava/lang/String;)Lcom/example/tidy_drawings/tidydrawings/Html;" } : Jvm.MethodName) prog_12_method_6_code (2 : Nat) (Option.some (Jvm.ClassFile.FieldType.object "com/example/tidy_drawings/tidydrawings/Html"))]
set_option maxRecDepth 65536 in
theorem codes_eq : words1.filter isCode = codes1 := rfl
theorem w_codes : ∀ c ∈ words1.filter isCode, c.before args0 about1 = true := by
  rw [codes_eq]
  intro c hc
  simp only [codes1, List.mem_cons, List.not_mem_nil, or_false] at hc
  rcases hc with rfl | rfl | rfl | rfl | rfl | rfl | rfl | rfl | rfl | rfl | rfl | rfl | rfl | rfl | rfl | rfl | rfl | rfl | rfl | rfl | rfl | rfl | rfl | rfl | rfl | rfl | rfl | rfl | rfl | rfl | rfl | rfl | rfl | rfl | rfl | rfl | rfl | rfl | rfl | rfl | rfl | rfl | rfl
  · exact w_c0
  · exact w_c1
  · exact w_c2
  · exact w_c3
  · exact w_c4
  · exact w_c5
  · exact w_c6
  · exact w_c7
  · exact w_c8
  · exact w_c9
  · exact w_c10
  · exact w_c11
  · exact w_c12
  · exact w_c13
  · exact w_c14
  · exact w_c15
  · exact w_c16
  · exact w_c17
  · exact w_c18
  · exact w_c19
  · exact w_c20
  · exact w_c21
  · exact w_c22
  · exact w_c23
  · exact w_c24
  · exact w_c25
  · exact w_c26
  · exact w_c27
  · exact w_c28
  · exact w_c29
  · exact w_c30
  · exact w_c31
  · exact w_c32
  · exact w_c33
  · exact w_c34
  · exact w_c35
  · exact w_c36
  · exact w_c37
  · exact w_c38
  · exact w_c39
  · exact w_c40
  · exact w_c41
  · exact w_c42
set_option maxRecDepth 65536 in
theorem w_t1 : (words1.take 24).all (fun c => isCode c || c.before args0 about1) = true := by decide +kernel
set_option maxRecDepth 65536 in
theorem w_t2 : ((words1.drop 24).take 24).all (fun c => isCode c || c.before args0 about1) = true := by decide +kernel
set_option maxRecDepth 65536 in
theorem w_t3 : (((words1.drop 24).drop 24).take 24).all (fun c => isCode c || c.before args0 about1) = true := by decide +kernel
set_option maxRecDepth 65536 in
theorem w_t4 : ((((words1.drop 24).drop 24).drop 24).take 24).all (fun c => isCode c || c.before args0 about1) = true := by decide +kernel
set_option maxRecDepth 65536 in
theorem w_t5 : (((((words1.drop 24).drop 24).drop 24).drop 24).take 24).all (fun c => isCode c || c.before args0 about1) = true := by decide +kernel
set_option maxRecDepth 65536 in
theorem w_t6 : ((((((words1.drop 24).drop 24).drop 24).drop 24).drop 24).take 24).all (fun c => isCode c || c.before args0 about1) = true := by decide +kernel
set_option maxRecDepth 65536 in
theorem w_t7 : (((((((words1.drop 24).drop 24).drop 24).drop 24).drop 24).drop 24).take 24).all (fun c => isCode c || c.before args0 about1) = true := by decide +kernel
set_option maxRecDepth 65536 in
theorem w_t8 : ((((((((words1.drop 24).drop 24).drop 24).drop 24).drop 24).drop 24).drop 24).take 24).all (fun c => isCode c || c.before args0 about1) = true := by decide +kernel
set_option maxRecDepth 65536 in
theorem w_t9 : ((((((((words1.drop 24).drop 24).drop 24).drop 24).drop 24).drop 24).drop 24).drop 24).all (fun c => isCode c || c.before args0 about1) = true := by decide +kernel
theorem w_tables : (allAtoms (Jvm.Cond.code x code maxLocals ret :: tables_1)).before args0 about1 = true := by
  rw [allAtoms_all]
  show words1.all (fun c => c.before args0 about1) = true
  refine all_split ?_ w_codes
  rw [← List.take_append_drop 24 words1, List.all_append, w_t1, ← List.take_append_drop 24 (words1.drop 24), List.all_append, w_t2, ← List.take_append_drop 24 ((words1.drop 24).drop 24), List.all_append, w_t3, ← List.take_append_drop 24 (((words1.drop 24).drop 24).drop 24), List.all_append, w_t4, ← List.take_append_drop 24 ((((words1.drop 24).drop 24).drop 24).drop 24), List.all_append, w_t5, ← List.take_append_drop 24 (((((words1.drop 24).drop 24).drop 24).drop 24).drop 24), List.all_append, w_t6, ← List.take_append_drop 24 ((((((words1.drop 24).drop 24).drop 24).drop 24).drop 24).drop 24), List.all_append, w_t7, ← List.take_append_drop 24 (((((((words1.drop 24).drop 24).drop 24).drop 24).drop 24).drop 24).drop 24), List.all_append, w_t8, w_t9]
  rfl
set_option maxRecDepth 65536 in
theorem w_rest : rest_1_c.before args0 about1 = true := by decide +kernel
set_option maxRecDepth 65536 in
theorem w_case : (Jvm.Cond.and given_1 narrow_1).before args0 about1 = true := by decide +kernel
set_option maxRecDepth 65536 in
theorem w_consts : constsHeld consts_1 about1 := Jvm.Lit.constsHeldB_iff.mp (by decide +kernel)
theorem w_applies : (headSpec (Jvm.Cond.code x code maxLocals ret :: tables_1) room_1).applies x e0.platform about1 = true :=
  (Spec.applies_iff w_frames).mpr ⟨w_running, w_runnable, w_alone, w_named, w_hears, w_ripe, w_room, w_tables⟩
theorem atStart : AtStart classFile x code maxLocals ret World_1 tables_1 room_1 Calls_1 rest_1 Pre_1 launch0 p0 e0 about1 theMethod args0 below0 :=
  ⟨lists_1, trivial, launch0.admits_env _ _ _, launch0.least_env, fairChoices_fair.cas, fairChoices_fair.clock, w_frames, w_args, w_heap, w_applies, ⟨w_consts, trivial⟩, w_rest, w_case⟩
end start1
theorem witness_1 : WitnessClaimed_1 := ⟨start1.p0, start1.e0, start1.about1, start1.theMethod, start1.args0, start1.below0, start1.atStart⟩
end Jvm.Pilot.@@N@@
