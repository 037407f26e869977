import JvmDerived
import JvmDerived.Pilot.@@N@@Statement
import JvmDerived.Pilot.@@N@@Code
set_option linter.unusedVariables false
set_option linter.unusedSimpArgs false
/- laws to paste: Road.backV, Road.codOf, Road.lenW, pair_says, chr8_lo8 (cut by pick.py; bodies as the Statement names them) -/
namespace Jvm.Pilot.@@N@@
namespace StrChars
open Jvm Sem ClassFile Op Lib Jvm.Stand Jvm.Free.XT Jvm.Free.ALB Jvm.Free.JM Jvm.Free
open Jvm.Lib.Cold (StaticIs)
/-- a char array whose places are chars -/
def Ch (a : Addr) (A : Cell) (U : State) : Prop := Arr .char a A U ∧ Typed .char A
theorem Ch.mv {a : Addr} {A : Cell} {U U' : State} (h : Ch a A U) (hal : U.vm.Alike U'.vm) (hh : U'.heap = U.heap) : Ch a A U' := ⟨h.1.mv hal hh, h.2⟩
theorem Ch.keep {a : Addr} {A : Cell} {U U' : State} (h : Ch a A U) (hal : U.vm.Alike U'.vm) (hk : U'.heap[a]? = some A) : Ch a A U' := ⟨h.1.keep hal hk, h.2⟩
/-- what place i of a char[]'s cell holds -/
def cv (A : Cell) (i : Nat) : Int32 := match A.slots[i]? with | some (.int x) => x | _ => 0
theorem Ch.get {a : Addr} {A : Cell} {U : State} (h : Ch a A U) {i : Nat} (hi : i < A.slots.size) : A.slots[i]? = some (.int (cv A i)) := by
  have e := Array.getElem?_eq_getElem hi
  have f := h.2 i _ e
  unfold cv; rw [e]
  generalize A.slots[i] = v at f
  cases v <;> simp [fits] at f ⊢
/-- the byte that i2b leaves of a char -/
def lo8 (x : Int32) : Int32 := x.toInt8.toInt32
theorem fits_lo8 (y : Int32) : fits .byte (.int (lo8 y)) = true := by
  have h1 := y.toInt8.le_toInt
  have h2 := y.toInt8.toInt_lt
  simp only [lo8, fits, Bool.and_eq_true, decide_eq_true_eq, Int32.le_iff_toInt_le, Int8.toInt_toInt32, show (-128 : Int32).toInt = -128 from by decide, show (127 : Int32).toInt = 127 from by decide]
  omega
/-- A' is A but that each place j of lo .. hi - 1 holds f j -/
def Laid (A A' : Cell) (lo hi : Nat) (f : Nat → Value) : Prop := A'.cls = A.cls ∧ A'.vm = A.vm ∧ A'.slots.size = A.slots.size ∧ ∀ i, A'.slots[i]? = if lo ≤ i ∧ i < hi then some (f i) else A.slots[i]?
theorem Laid.zero (A : Cell) (lo : Nat) (f : Nat → Value) : Laid A A lo (lo + 0) f := ⟨rfl, rfl, rfl, fun i => by rw [if_neg (by omega)]⟩
theorem Laid.step {A Ak : Cell} {lo k : Nat} {f : Nat → Value} {v : Value} (h : Laid A Ak lo k f) (hlo : lo ≤ k) (hk : k < Ak.slots.size) (hv : v = f k) : Laid A (Ak.setSlot k v) lo (k + 1) f := by
  refine ⟨h.1, h.2.1, by simpa [Cell.setSlot] using h.2.2.1, fun i => ?_⟩
  by_cases e : k = i
  · subst e; rw [Cell.slots_setSlot_self v hk, if_pos (by omega), hv]
  · rw [Cell.slots_setSlot_ne v e, h.2.2.2 i]
    by_cases q : lo ≤ i ∧ i < k
    · rw [if_pos q, if_pos (by omega)]
    · rw [if_neg q, if_neg (by omega)]
def U16 : String := "java/lang/StringUTF16"
namespace Cmp5
def yN : MethodName := ⟨"java/lang/StringUTF16", "compress", "([CI[BII)I"⟩
abbrev yB : ByteArray := jdk_52_method_21_code
theorem d0 : decode yB 0 = .ok (.iconst 0, 1) := by decide +kernel
theorem d1 : decode yB 1 = .ok (.istore 5, 2) := by decide +kernel
theorem d3 : decode yB 3 = .ok (.iload 5, 2) := by decide +kernel
theorem d5 : decode yB 5 = .ok (.iload 4, 2) := by decide +kernel
theorem d7 : decode yB 7 = .ok (.if_icmp (.ge) 37, 3) := by decide +kernel
theorem d10 : decode yB 10 = .ok (.aload_n 0, 1) := by decide +kernel
theorem d11 : decode yB 11 = .ok (.iload_n 1, 1) := by decide +kernel
theorem d12 : decode yB 12 = .ok (.caload, 1) := by decide +kernel
theorem d13 : decode yB 13 = .ok (.istore 6, 2) := by decide +kernel
theorem d15 : decode yB 15 = .ok (.iload 6, 2) := by decide +kernel
theorem d17 : decode yB 17 = .ok (.sipush 255, 3) := by decide +kernel
theorem d20 : decode yB 20 = .ok (.if_icmp (.le) 6, 3) := by decide +kernel
theorem d26 : decode yB 26 = .ok (.aload_n 2, 1) := by decide +kernel
theorem d27 : decode yB 27 = .ok (.iload_n 3, 1) := by decide +kernel
theorem d28 : decode yB 28 = .ok (.iload 6, 2) := by decide +kernel
theorem d30 : decode yB 30 = .ok (.i2b, 1) := by decide +kernel
theorem d31 : decode yB 31 = .ok (.bastore, 1) := by decide +kernel
theorem d32 : decode yB 32 = .ok (.iinc 1 1, 3) := by decide +kernel
theorem d35 : decode yB 35 = .ok (.iinc 3 1, 3) := by decide +kernel
theorem d38 : decode yB 38 = .ok (.iinc 5 1, 3) := by decide +kernel
theorem d41 : decode yB 41 = .ok (.goto (-38), 3) := by decide +kernel
theorem d44 : decode yB 44 = .ok (.iload 4, 2) := by decide +kernel
theorem d46 : decode yB 46 = .ok (.ireturn, 1) := by decide +kernel
def site : List Cond := []
def tab : Cond := tabOf yN yB 7 (some .int) site
def P (b : Addr) (A : Cell) (d : Addr) (B : Cell) (o q len : Nat) (args : Array Value) (s : State) : Prop := args = #[.ref b, .int (Int32.ofNat o), .ref d, .int (Int32.ofNat q), .int (Int32.ofNat len)] ∧ Ch b A s ∧ Arr .byte d B s ∧ b ≠ d ∧ o + len ≤ A.slots.size ∧ q + len ≤ B.slots.size ∧ ∀ i, i < len → ¬ 255 < cv A (o + i)
def E (b : Addr) (A : Cell) (d : Addr) (B : Cell) (o q len : Nat) (r : Option Value) (s u : State) : Prop := r = some (.int (Int32.ofNat len)) ∧ ∃ B', Put d B' s u ∧ Laid B B' q (q + len) (fun j => Value.int (lo8 (cv A (o + (j - q)))))
/-- no char of the range above 255: len; the places written hold each char's low byte -/
theorem law (l : Launch) (b : Addr) (A : Cell) (d : Addr) (B : Cell) (o q len : Nat) : Law l yN 5 5 0 0 yB 7 (some .int) site (P b A d B o q len) (E b A d B o q len) (copyLocs d q len) 0 0 := by
  refine Law.of_walk (plainFor_of_name (by decide +kernel)) (by decide +kernel) (by decide +kernel) (by decide) (fun _ _ h => by rw [h.1]; rfl) (fun _ U U' hal hh h => ⟨h.1, h.2.1.mv hal hh, h.2.2.1.mv hal hh, h.2.2.2⟩) (fun r U U' V V' h1 hal h2 h => ⟨h.1, h.2.elim fun B' q => ⟨B', q.1.mv h1 h2, q.2⟩⟩) ?_
  intro p e s m args below meth c s₁ X0 hexec hbytes hml hret hlk hnm hown hh0 W hP
  obtain ⟨rfl, hA, hB, hne, l1, l2, hp⟩ := hP
  have c1 : Steps p.tables e below (s₁.setTop (entryFrame m #[.ref b, .int (Int32.ofNat o), .ref d, .int (Int32.ofNat q), .int (Int32.ofNat len)] 7)) (s₁.setTop (mkF m 0 #[.val (.ref b), .val (.int (Int32.ofNat o)), .val (.ref d), .val (.int (Int32.ofNat q)), .val (.int (Int32.ofNat len)), .unset, .unset] [])) := entry rfl
  have hA0 := hA.1.mv X0.warmed.alike hh0
  have hB0 := hB.mv X0.warmed.alike hh0
  have a31 := hA.1.2.2.2
  have c2 : Steps p.tables e below (s₁.setTop (entryFrame m #[.ref b, .int (Int32.ofNat o), .ref d, .int (Int32.ofNat q), .int (Int32.ofNat len)] 7)) (s₁.setTop (mkF m 3 #[.val (.ref b), .val (.int (Int32.ofNat o)), .val (.ref d), .val (.int (Int32.ofNat q)), .val (.int (Int32.ofNat len)), .val (.int 0), .unset] [])) := c1.trans (by
    refine iconstV X0.here hexec rfl 0 (hb hbytes d0) (by decide) ?_
    refine XS.istore X0.here hexec rfl (hb hbytes d1) rfl rfl ?_
    exact Steps.refl _)
  have loop : ∀ (r i : Nat), i + r = len → ∀ (z : Slot), (z = .unset ∨ ∃ w, z = .val w ∧ w.category = 1) → ∀ (Tl : State) (Bk : Cell), Stand p l e { frames := 0, locals := 0, cells := 0, slots := 0 } s m #[.ref b, .int (Int32.ofNat o), .ref d, .int (Int32.ofNat q), .int (Int32.ofNat len)] below meth c Tl ([] ++ copyLocs d q i) 0 0 → Put d Bk s₁ Tl → Laid B Bk q (q + i) (fun j => Value.int (lo8 (cv A (o + (j - q))))) →
      Steps p.tables e below (s₁.setTop (entryFrame m #[.ref b, .int (Int32.ofNat o), .ref d, .int (Int32.ofNat q), .int (Int32.ofNat len)] 7)) (Tl.setTop (mkF m 3 #[.val (.ref b), .val (.int (Int32.ofNat (o + i))), .val (.ref d), .val (.int (Int32.ofNat (q + i))), .val (.int (Int32.ofNat len)), .val (.int (Int32.ofNat i)), z] [])) → ∃ (T' : State) (B' : Cell) (z' : Slot), Stand p l e { frames := 0, locals := 0, cells := 0, slots := 0 } s m #[.ref b, .int (Int32.ofNat o), .ref d, .int (Int32.ofNat q), .int (Int32.ofNat len)] below meth c T' ([] ++ copyLocs d q len) 0 0 ∧ Put d B' s₁ T' ∧ Laid B B' q (q + len) (fun j => Value.int (lo8 (cv A (o + (j - q))))) ∧
      Steps p.tables e below (s₁.setTop (entryFrame m #[.ref b, .int (Int32.ofNat o), .ref d, .int (Int32.ofNat q), .int (Int32.ofNat len)] 7)) (T'.setTop (mkF m 3 #[.val (.ref b), .val (.int (Int32.ofNat (o + len))), .val (.ref d), .val (.int (Int32.ofNat (q + len))), .val (.int (Int32.ofNat len)), .val (.int (Int32.ofNat len)), z'] [])) := by
    intro r
    induction r with
    | zero =>
      intro i hi z hz Tl Bk Xl pl fl cl
      have hil : i = len := by omega
      rw [hil] at Xl fl cl
      exact ⟨Tl, Bk, z, Xl, pl, fl, cl⟩
    | succ r ih =>
      intro i hi z hz Tl Bk Xl pl fl cl
      have all := X0.warmed.alike.symm.trans Xl.warmed.alike
      have hAl := hA0.keep all (pl.other hne hA0.1)
      have hBk := hB0.like all pl.1 fl.1 fl.2.1 fl.2.2.1
      have hlt : q + i < Bk.slots.size := by rw [fl.2.2.1]; omega
      have c3 : Steps p.tables e below (s₁.setTop (entryFrame m #[.ref b, .int (Int32.ofNat o), .ref d, .int (Int32.ofNat q), .int (Int32.ofNat len)] 7)) (Tl.setTop (mkF m 12 #[.val (.ref b), .val (.int (Int32.ofNat (o + i))), .val (.ref d), .val (.int (Int32.ofNat (q + i))), .val (.int (Int32.ofNat len)), .val (.int (Int32.ofNat i)), z] [.int (Int32.ofNat (o + i)), .ref b])) := cl.trans (by
        refine XS.iload Xl.here hexec rfl (hb hbytes d3) rfl ?_
        refine XS.iload Xl.here hexec rfl (hb hbytes d5) rfl ?_
        refine XS.icmpNo Xl.here hexec rfl (hb hbytes d7) rfl (ii_ge_f (lt32 (by omega) (by omega))) ?_
        refine XS.aloadN Xl.here hexec rfl (hb hbytes d10) rfl rfl ?_
        refine XS.iloadN Xl.here hexec rfl (hb hbytes d11) rfl ?_
        exact Steps.refl _)
      have c4 : Steps p.tables e below (s₁.setTop (entryFrame m #[.ref b, .int (Int32.ofNat o), .ref d, .int (Int32.ofNat q), .int (Int32.ofNat len)] 7)) (Tl.setTop (mkF m 13 #[.val (.ref b), .val (.int (Int32.ofNat (o + i))), .val (.ref d), .val (.int (Int32.ofNat (q + i))), .val (.int (Int32.ofNat len)), .val (.int (Int32.ofNat i)), z] [.int (cv A (o + i))])) := c3.trans (by
        refine Xl.aget hexec hAl rfl (hA.get (i := o + i) (by omega)) rfl rfl (hb hbytes d12) ?_
        exact Steps.refl _)
      have c5 : Steps p.tables e below (s₁.setTop (entryFrame m #[.ref b, .int (Int32.ofNat o), .ref d, .int (Int32.ofNat q), .int (Int32.ofNat len)] 7)) (Tl.setTop (mkF m 15 #[.val (.ref b), .val (.int (Int32.ofNat (o + i))), .val (.ref d), .val (.int (Int32.ofNat (q + i))), .val (.int (Int32.ofNat len)), .val (.int (Int32.ofNat i)), .val (.int (cv A (o + i)))] [])) := c4.trans (by
        refine XS.istoreS Xl.here hexec rfl (hb hbytes d13) rfl rfl hz ?_
        exact Steps.refl _)
      have c6 : Steps p.tables e below (s₁.setTop (entryFrame m #[.ref b, .int (Int32.ofNat o), .ref d, .int (Int32.ofNat q), .int (Int32.ofNat len)] 7)) (Tl.setTop (mkF m 31 #[.val (.ref b), .val (.int (Int32.ofNat (o + i))), .val (.ref d), .val (.int (Int32.ofNat (q + i))), .val (.int (Int32.ofNat len)), .val (.int (Int32.ofNat i)), .val (.int (cv A (o + i)))] [.int (lo8 (cv A (o + i))), .int (Int32.ofNat (q + i)), .ref d])) := c5.trans (by
        refine XS.iload Xl.here hexec rfl (hb hbytes d15) rfl ?_
        refine sipushV Xl.here hexec rfl 255 (hb hbytes d17) (by decide) ?_
        refine XS.icmpYes Xl.here hexec rfl (pc0 := 20) rfl (hb hbytes d20) rfl (ii_le_t (hp i (by omega))) (by decide) rfl ?_
        refine XS.aloadN Xl.here hexec rfl (hb hbytes d26) rfl rfl ?_
        refine XS.iloadN Xl.here hexec rfl (hb hbytes d27) rfl ?_
        refine XS.iload Xl.here hexec rfl (hb hbytes d28) rfl ?_
        refine i2b Xl.here hexec rfl (hb hbytes d30) rfl ?_
        exact Steps.refl _)
      obtain ⟨T7, X7, p7, st7⟩ := Xl.aput hexec hBk rfl hlt rfl (fits_lo8 (cv A (o + i))) (g := (mkF m 31 #[.val (.ref b), .val (.int (Int32.ofNat (o + i))), .val (.ref d), .val (.int (Int32.ofNat (q + i))), .val (.int (Int32.ofNat len)), .val (.int (Int32.ofNat i)), .val (.int (cv A (o + i)))] [.int (lo8 (cv A (o + i))), .int (Int32.ofNat (q + i)), .ref d])) rfl (rest := []) rfl (hb hbytes d31)
      have c8 : Steps p.tables e below (s₁.setTop (entryFrame m #[.ref b, .int (Int32.ofNat o), .ref d, .int (Int32.ofNat q), .int (Int32.ofNat len)] 7)) (T7.setTop (mkF m 32 #[.val (.ref b), .val (.int (Int32.ofNat (o + i))), .val (.ref d), .val (.int (Int32.ofNat (q + i))), .val (.int (Int32.ofNat len)), .val (.int (Int32.ofNat i)), .val (.int (cv A (o + i)))] [])) := c6.trans (st7 _ (Steps.refl _))
      have c9 : Steps p.tables e below (s₁.setTop (entryFrame m #[.ref b, .int (Int32.ofNat o), .ref d, .int (Int32.ofNat q), .int (Int32.ofNat len)] 7)) (T7.setTop (mkF m 3 #[.val (.ref b), .val (.int (Int32.ofNat (o + i) + 1)), .val (.ref d), .val (.int (Int32.ofNat (q + i) + 1)), .val (.int (Int32.ofNat len)), .val (.int (Int32.ofNat i + 1)), .val (.int (cv A (o + i)))] [])) := c8.trans (by
        refine iincV X7.here hexec rfl 1 (hb hbytes d32) (by decide) rfl rfl ?_
        refine iincV X7.here hexec rfl 1 (hb hbytes d35) (by decide) rfl rfl ?_
        refine iincV X7.here hexec rfl 1 (hb hbytes d38) (by decide) rfl rfl ?_
        refine XS.goto X7.here hexec rfl (pc0 := 41) rfl (hb hbytes d41) (by decide) rfl ?_
        exact Steps.refl _)
      have c10 : Steps p.tables e below (s₁.setTop (entryFrame m #[.ref b, .int (Int32.ofNat o), .ref d, .int (Int32.ofNat q), .int (Int32.ofNat len)] 7)) (T7.setTop (mkF m 3 #[.val (.ref b), .val (.int (Int32.ofNat (o + (i + 1)))), .val (.ref d), .val (.int (Int32.ofNat (q + (i + 1)))), .val (.int (Int32.ofNat len)), .val (.int (Int32.ofNat (i + 1))), .val (.int (cv A (o + i)))] [])) := by
        have := c9
        rw [succ32, succ32, succ32] at this
        exact this
      exact ih (i + 1) (by omega) _ (Or.inr ⟨_, rfl, rfl⟩) T7 _ (by rw [copyLocs_step, ← List.append_assoc]; exact X7) (pl.trans p7) (fl.step (by omega) hlt (by simp)) c10
  obtain ⟨T9, B9, z9, X9, p9, f9, g9⟩ := loop len 0 (by omega) .unset (Or.inl rfl) s₁ B (by simpa [copyLocs] using X0) ⟨hB0.1, fun _ _ => rfl, rfl⟩ (Laid.zero _ _ _) c2
  have c11 : Steps p.tables e below (s₁.setTop (entryFrame m #[.ref b, .int (Int32.ofNat o), .ref d, .int (Int32.ofNat q), .int (Int32.ofNat len)] 7)) (T9.setTop (mkF m 46 #[.val (.ref b), .val (.int (Int32.ofNat (o + len))), .val (.ref d), .val (.int (Int32.ofNat (q + len))), .val (.int (Int32.ofNat len)), .val (.int (Int32.ofNat len)), z9] [.int (Int32.ofNat len)])) := g9.trans (by
    refine XS.iload X9.here hexec rfl (hb hbytes d3) rfl ?_
    refine XS.iload X9.here hexec rfl (hb hbytes d5) rfl ?_
    refine XS.icmpYes X9.here hexec rfl (pc0 := 7) rfl (hb hbytes d7) rfl (ii_ge_t (nlt32 (by omega) (Nat.le_refl _))) (by decide) rfl ?_
    refine XS.iload X9.here hexec rfl (hb hbytes d44) rfl ?_
    exact Steps.refl _)
  exact ⟨T9, some (.int (Int32.ofNat len)), _, _, _, X9, by simp, rfl, rfl, (fun h => by cases h), ⟨rfl, B9, p9.from hh0, f9⟩, fun fs hl => c11.trans (X9.ireturnOut hexec hret rfl (Or.inl rfl) (hb hbytes d46) hl)⟩
end Cmp5
namespace Cmp3
def yN : MethodName := ⟨"java/lang/StringUTF16", "compress", "([CII)[B"⟩
abbrev yB : ByteArray := jdk_52_method_16_code
theorem d0 : decode yB 0 = .ok (.iload_n 2, 1) := by decide +kernel
theorem d1 : decode yB 1 = .ok (.newarray .byte, 2) := by decide +kernel
theorem d3 : decode yB 3 = .ok (.astore_n 3, 1) := by decide +kernel
theorem d4 : decode yB 4 = .ok (.aload_n 0, 1) := by decide +kernel
theorem d5 : decode yB 5 = .ok (.iload_n 1, 1) := by decide +kernel
theorem d6 : decode yB 6 = .ok (.aload_n 3, 1) := by decide +kernel
theorem d7 : decode yB 7 = .ok (.iconst 0, 1) := by decide +kernel
theorem d8 : decode yB 8 = .ok (.iload_n 2, 1) := by decide +kernel
theorem d9 : decode yB 9 = .ok (.invokestatic 115, 3) := by decide +kernel
theorem d12 : decode yB 12 = .ok (.istore 4, 2) := by decide +kernel
theorem d14 : decode yB 14 = .ok (.iload 4, 2) := by decide +kernel
theorem d16 : decode yB 16 = .ok (.iload_n 2, 1) := by decide +kernel
theorem d17 : decode yB 17 = .ok (.if_icmp (.eq) 40, 3) := by decide +kernel
theorem d57 : decode yB 57 = .ok (.aload_n 3, 1) := by decide +kernel
theorem d58 : decode yB 58 = .ok (.areturn, 1) := by decide +kernel
def site : List Cond := [.arrayClass .byte, Cmp5.tab] ++ staticW U16 115 Cmp5.yN
def tab : Cond := tabOf yN yB 6 (some (.array .byte)) site
def P (b : Addr) (A : Cell) (o len : Nat) (args : Array Value) (s : State) : Prop := args = #[.ref b, .int (Int32.ofNat o), .int (Int32.ofNat len)] ∧ Ch b A s ∧ o + len ≤ A.slots.size ∧ len ≤ 536870912 ∧ ∀ i, i < len → ¬ 255 < cv A (o + i)
def E (b : Addr) (A : Cell) (o len : Nat) (r : Option Value) (s u : State) : Prop := NewArr .byte "[B" len (fun j => .int (lo8 (cv A (o + j)))) r s u ∧ u.heap.size = s.heap.size + 1
/-- no char of the range above 255: a new byte[] of their low bytes -/
theorem law (l : Launch) (b : Addr) (A : Cell) (o len : Nat) : Law l yN 3 3 1 18 yB 6 (some (.array .byte)) site (P b A o len) (E b A o len) [] 1 len := by
  refine Law.of_walk (plainFor_of_name (by decide +kernel)) (by decide +kernel) (by decide +kernel) (by decide) (fun _ _ h => by rw [h.1]; rfl) (fun _ U U' hal hh h => ⟨h.1, h.2.1.mv hal hh, h.2.2⟩) (fun r U U' V V' h1 hal h2 h => ⟨NewArr.mv r U U' V V' h1 hal h2 h.1, by rw [h1, h2]; exact h.2⟩) ?_
  intro p e s m args below meth c s₁ X0 hexec hbytes hml hret hlk hnm hown hh0 W hP
  obtain ⟨rfl, hA, l1, l2, hp⟩ := hP
  have a31 := hA.1.2.2.2
  have c1 : Steps p.tables e below (s₁.setTop (entryFrame m #[.ref b, .int (Int32.ofNat o), .int (Int32.ofNat len)] 6)) (s₁.setTop (mkF m 0 #[.val (.ref b), .val (.int (Int32.ofNat o)), .val (.int (Int32.ofNat len)), .unset, .unset, .unset] [])) := entry rfl
  have c2 : Steps p.tables e below (s₁.setTop (entryFrame m #[.ref b, .int (Int32.ofNat o), .int (Int32.ofNat len)] 6)) (s₁.setTop (mkF m 1 #[.val (.ref b), .val (.int (Int32.ofNat o)), .val (.int (Int32.ofNat len)), .unset, .unset, .unset] [.int (Int32.ofNat len)])) := c1.trans (by
    refine XS.iloadN X0.here hexec rfl (hb hbytes d0) rfl ?_
    exact Steps.refl _)
  obtain ⟨T3, B3, X3, ba3, bs3, bv3, bh3, bf3, st3⟩ := X0.anew hexec (atype := .byte) (wk W (.arrayClass .byte)) rfl (by show len * 1 ≤ _; omega) (by omega) (g := (mkF m 1 #[.val (.ref b), .val (.int (Int32.ofNat o)), .val (.int (Int32.ofNat len)), .unset, .unset, .unset] [.int (Int32.ofNat len)])) rfl (hb hbytes d1) (rest := []) rfl (Nat.le_refl _) (by show 0 + len ≤ len; omega)
  rw [hh0] at ba3 st3
  have kp3 : XT.Kept s T3 := (XT.Kept.of_eq hh0).push bh3
  have hA3 := hA.keep X3.warmed.alike (kp3 _ _ hA.1.1)
  have hne : b ≠ s.heap.size := hA.1.ne
  have c4 : Steps p.tables e below (s₁.setTop (entryFrame m #[.ref b, .int (Int32.ofNat o), .int (Int32.ofNat len)] 6)) (T3.setTop (mkF m 3 #[.val (.ref b), .val (.int (Int32.ofNat o)), .val (.int (Int32.ofNat len)), .unset, .unset, .unset] [.ref s.heap.size])) := c2.trans (st3 _ (Steps.refl _))
  have c5 : Steps p.tables e below (s₁.setTop (entryFrame m #[.ref b, .int (Int32.ofNat o), .int (Int32.ofNat len)] 6)) (T3.setTop (mkF m 9 #[.val (.ref b), .val (.int (Int32.ofNat o)), .val (.int (Int32.ofNat len)), .val (.ref s.heap.size), .unset, .unset] [.int (Int32.ofNat len), .int 0, .ref s.heap.size, .int (Int32.ofNat o), .ref b])) := c4.trans (by
    refine XS.astoreN X3.here hexec rfl (hb hbytes d3) rfl rfl rfl ?_
    refine XS.aloadN X3.here hexec rfl (hb hbytes d4) rfl rfl ?_
    refine XS.iloadN X3.here hexec rfl (hb hbytes d5) rfl ?_
    refine XS.aloadN X3.here hexec rfl (hb hbytes d6) rfl rfl ?_
    refine iconstV X3.here hexec rfl 0 (hb hbytes d7) (by decide) ?_
    refine XS.iloadN X3.here hexec rfl (hb hbytes d8) rfl ?_
    exact Steps.refl _)
  obtain ⟨v6, T6, X6, E6, g6⟩ := X3.callS hexec (Cmp5.law l b A s.heap.size B3 o 0 len) hown (wks W (staticW U16 115 Cmp5.yN)) (wk W Cmp5.tab) (W := 0) (Nat.le_of_ble_eq_true rfl) (Nat.le_of_ble_eq_true rfl) (Nat.le_refl _) (by show 0 + len + 0 ≤ len; omega) (g := (mkF m 9 #[.val (.ref b), .val (.int (Int32.ofNat o)), .val (.int (Int32.ofNat len)), .val (.ref s.heap.size), .unset, .unset] [.int (Int32.ofNat len), .int (Int32.ofNat 0), .ref s.heap.size, .int (Int32.ofNat o), .ref b])) rfl (by rw [hml]; rfl) c5 (argsL := [.ref b, .int (Int32.ofNat o), .ref s.heap.size, .int (Int32.ofNat 0), .int (Int32.ofNat len)]) (rest := []) rfl rfl (by show 2 * 0 + 0 ≤ _; decide) (hb hbytes d9) (⟨rfl, hA3, ba3, hne, l1, by rw [bs3]; simp, hp⟩)
  obtain ⟨rfl, B6, p6, f6⟩ := E6
  have c7 : Steps p.tables e below (s₁.setTop (entryFrame m #[.ref b, .int (Int32.ofNat o), .int (Int32.ofNat len)] 6)) (T6.setTop (mkF m 12 #[.val (.ref b), .val (.int (Int32.ofNat o)), .val (.int (Int32.ofNat len)), .val (.ref s.heap.size), .unset, .unset] [.int (Int32.ofNat len)])) := g6
  have c8 : Steps p.tables e below (s₁.setTop (entryFrame m #[.ref b, .int (Int32.ofNat o), .int (Int32.ofNat len)] 6)) (T6.setTop (mkF m 58 #[.val (.ref b), .val (.int (Int32.ofNat o)), .val (.int (Int32.ofNat len)), .val (.ref s.heap.size), .val (.int (Int32.ofNat len)), .unset] [.ref s.heap.size])) := c7.trans (by
    refine XS.istore X6.here hexec rfl (hb hbytes d12) rfl rfl ?_
    refine XS.iload X6.here hexec rfl (hb hbytes d14) rfl ?_
    refine XS.iloadN X6.here hexec rfl (hb hbytes d16) rfl ?_
    refine XS.icmpYes X6.here hexec rfl (pc0 := 17) rfl (hb hbytes d17) rfl (ii_eq_t rfl) (by decide) rfl ?_
    refine XS.aloadN X6.here hexec rfl (hb hbytes d57) rfl rfl ?_
    exact Steps.refl _)
  have X8 := X6.wide (L' := []) (cells' := 1) (slots' := len) (fun x hx hlt => by
    simp only [List.nil_append, copyLocs, List.mem_map, List.mem_range] at hx
    obtain ⟨i, -, rfl⟩ := hx
    exact absurd hlt (Nat.lt_irrefl _)) (Nat.le_refl _) (by omega)
  exact ⟨T6, some (.ref s.heap.size), _, _, _, X8, rfl, rfl, rfl, (fun h => by cases h), ⟨⟨rfl, B6, ba3.like (X3.warmed.alike.symm.trans X6.warmed.alike) p6.1 f6.1 f6.2.1 f6.2.2.1, f6.2.1.trans bv3, by rw [X6.warmed.alike.findClass, f6.1]; exact bf3, by rw [f6.2.2.1, bs3]; simp, fun j hj => by rw [f6.2.2.2 j, if_pos (by omega)]; rfl, kp3.put p6 (Nat.le_refl _)⟩, by rw [p6.2.2, bh3, hh0]; simp⟩, fun fs hl => c8.trans (X8.areturnOut hexec rfl hret rfl (hb hbytes d58) hl)⟩
end Cmp3
namespace CodL
def yN : MethodName := ⟨"java/lang/StringUTF16", "coderFromArrayLen", "([BI)B"⟩
abbrev yB : ByteArray := jdk_52_method_15_code
theorem d0 : decode yB 0 = .ok (.iload_n 1, 1) := by decide +kernel
theorem d1 : decode yB 1 = .ok (.aload_n 0, 1) := by decide +kernel
theorem d2 : decode yB 2 = .ok (.arraylength, 1) := by decide +kernel
theorem d3 : decode yB 3 = .ok (.isub, 1) := by decide +kernel
theorem d4 : decode yB 4 = .ok (.bipush 31, 2) := by decide +kernel
theorem d6 : decode yB 6 = .ok (.iushr, 1) := by decide +kernel
theorem d7 : decode yB 7 = .ok (.i2b, 1) := by decide +kernel
theorem d8 : decode yB 8 = .ok (.ireturn, 1) := by decide +kernel
def site : List Cond := []
def tab : Cond := tabOf yN yB 2 (some .byte) site
def P (d : Addr) (B : Cell) (args : Array Value) (s : State) : Prop := args = #[.ref d, .int (Int32.ofNat B.slots.size)] ∧ Arr .byte d B s
def E (r : Option Value) (s u : State) : Prop := XT.PureE (some (.int 0)) r s u
/-- an array as long as the number of chars: LATIN1 -/
theorem law (l : Launch) (d : Addr) (B : Cell) : Law l yN 2 2 0 0 yB 2 (some .byte) site (P d B) E [] 0 0 := by
  refine Law.of_walk (plainFor_of_name (by decide +kernel)) (by decide +kernel) (by decide +kernel) (by decide) (fun _ _ h => by rw [h.1]; rfl) (fun _ U U' hal hh h => ⟨h.1, h.2.mv hal hh⟩) (fun r U U' V V' h1 hal h2 h => XT.PureE.mv r U U' V V' h1 hal h2 h) ?_
  intro p e s m args below meth c s₁ X0 hexec hbytes hml hret hlk hnm hown hh0 W hP
  obtain ⟨rfl, hB⟩ := hP
  have hB0 := hB.mv X0.warmed.alike hh0
  have c1 : Steps p.tables e below (s₁.setTop (entryFrame m #[.ref d, .int (Int32.ofNat B.slots.size)] 2)) (s₁.setTop (mkF m 0 #[.val (.ref d), .val (.int (Int32.ofNat B.slots.size))] [])) := entry rfl
  have c2 : Steps p.tables e below (s₁.setTop (entryFrame m #[.ref d, .int (Int32.ofNat B.slots.size)] 2)) (s₁.setTop (mkF m 2 #[.val (.ref d), .val (.int (Int32.ofNat B.slots.size))] [.ref d, .int (Int32.ofNat B.slots.size)])) := c1.trans (by
    refine XS.iloadN X0.here hexec rfl (hb hbytes d0) rfl ?_
    refine XS.aloadN X0.here hexec rfl (hb hbytes d1) rfl rfl ?_
    exact Steps.refl _)
  have c3 : Steps p.tables e below (s₁.setTop (entryFrame m #[.ref d, .int (Int32.ofNat B.slots.size)] 2)) (s₁.setTop (mkF m 8 #[.val (.ref d), .val (.int (Int32.ofNat B.slots.size))] [.int (lo8 (ushr (Int32.ofNat B.slots.size - Int32.ofNat B.slots.size) 31))])) := c2.trans (by
    refine X0.alen hexec hB0 rfl rfl (hb hbytes d2) ?_
    refine XS.isub X0.here hexec rfl (hb hbytes d3) rfl ?_
    refine bipushV X0.here hexec rfl 31 (hb hbytes d4) (by decide) ?_
    refine iushr X0.here hexec rfl (hb hbytes d6) rfl ?_
    refine i2b X0.here hexec rfl (hb hbytes d7) rfl ?_
    exact Steps.refl _)
  have e0 : lo8 (ushr (Int32.ofNat B.slots.size - Int32.ofNat B.slots.size) 31) = 0 := by rw [Int32.sub_self]; decide
  rw [e0] at c3
  exact ⟨s₁, some (.int 0), _, _, _, X0, rfl, rfl, rfl, (fun h => by cases h), ⟨rfl, hh0⟩, fun fs hl => c3.trans (X0.ireturnOut hexec hret rfl (Or.inr (Or.inr (Or.inl rfl))) (hb hbytes d8) hl)⟩
end CodL
/-- the String at a is Latin-1 over a new byte[] (the heap's one new cell): the low bytes of the len chars of A from o on; every cell but a is kept -/
def Got (a : Addr) (D : Cell) (fV fC : Field) (A : Cell) (o len : Nat) (r : Option Value) (s u : State) : Prop := r = none ∧ ∃ D' V : Cell, Blank "java/lang/String" a D' u ∧ Same D D' [fV.slot, fC.slot] ∧ D'.slots[fV.slot]? = some (.ref s.heap.size) ∧ D'.slots[fC.slot]? = some (.int 0) ∧ Arr .byte s.heap.size V u ∧ V.vm = .none ∧ u.vm.findClass "[B" = some V.cls ∧ V.slots.size = len ∧ (∀ j, j < len → V.slots[j]? = some (.int (lo8 (cv A (o + j))))) ∧ (∀ (y : Addr) (c : Cell), y ≠ a → s.heap[y]? = some c → u.heap[y]? = some c) ∧ u.heap.size = s.heap.size + 1
theorem Got.mv {a : Addr} {D A : Cell} {fV fC : Field} {o len : Nat} : ∀ r (U U' V V' : State), U'.heap = U.heap → V.vm.Alike V'.vm → V'.heap = V.heap → Got a D fV fC A o len r U V → Got a D fV fC A o len r U' V' :=
  fun r U U' V V' h1 hal h2 ⟨e0, D', X, a1, a2, a3, a4, a5, a6, a7, a8, a9, a10, a11⟩ => ⟨e0, D', X, a1.mv hal h2, a2, by rw [h1]; exact a3, a4, by rw [h1]; exact a5.mv hal h2, a6, by rw [hal.findClass]; exact a7, a8, a9, by rw [h1, h2]; exact a10, by rw [h1, h2]; exact a11⟩
namespace New4
def yN : MethodName := ⟨"java/lang/String", "<init>", "([CIILjava/lang/Void;)V"⟩
abbrev yB : ByteArray := jdk_42_method_149_code
theorem d0 : decode yB 0 = .ok (.aload_n 0, 1) := by decide +kernel
theorem d1 : decode yB 1 = .ok (.invokespecial 1, 3) := by decide +kernel
theorem d4 : decode yB 4 = .ok (.iload_n 3, 1) := by decide +kernel
theorem d5 : decode yB 5 = .ok (.ifCond (.ne) 22, 3) := by decide +kernel
theorem d27 : decode yB 27 = .ok (.getstatic 38, 3) := by decide +kernel
theorem d30 : decode yB 30 = .ok (.ifCond (.eq) 28, 3) := by decide +kernel
theorem d33 : decode yB 33 = .ok (.aload_n 1, 1) := by decide +kernel
theorem d34 : decode yB 34 = .ok (.iload_n 2, 1) := by decide +kernel
theorem d35 : decode yB 35 = .ok (.iload_n 3, 1) := by decide +kernel
theorem d36 : decode yB 36 = .ok (.invokestatic 177, 3) := by decide +kernel
theorem d39 : decode yB 39 = .ok (.astore 5, 2) := by decide +kernel
theorem d41 : decode yB 41 = .ok (.aload_n 0, 1) := by decide +kernel
theorem d42 : decode yB 42 = .ok (.aload 5, 2) := by decide +kernel
theorem d44 : decode yB 44 = .ok (.iload_n 3, 1) := by decide +kernel
theorem d45 : decode yB 45 = .ok (.invokestatic 47, 3) := by decide +kernel
theorem d48 : decode yB 48 = .ok (.putfield 15, 3) := by decide +kernel
theorem d51 : decode yB 51 = .ok (.aload_n 0, 1) := by decide +kernel
theorem d52 : decode yB 52 = .ok (.aload 5, 2) := by decide +kernel
theorem d54 : decode yB 54 = .ok (.putfield 9, 3) := by decide +kernel
theorem d57 : decode yB 57 = .ok (.return_, 1) := by decide +kernel
def site : List Cond := [.fieldLink "java/lang/String" 38 "java/lang/String" "COMPACT_STRINGS" "Z", Cmp3.tab, CodL.tab, .laysFinal "java/lang/String" "java/lang/String" "value" "[B", .fieldLink "java/lang/String" 9 "java/lang/String" "value" "[B", .laysFinal "java/lang/String" "java/lang/String" "coder" "B", .fieldLink "java/lang/String" 15 "java/lang/String" "coder" "B"] ++ objW "java/lang/String" 1 ++ staticW "java/lang/String" 177 Cmp3.yN ++ staticW "java/lang/String" 47 CodL.yN
def tab : Cond := tabOf yN yB 6 none site
def P (a : Addr) (D : Cell) (fV fC : Field) (b : Addr) (A : Cell) (z : Int32) (o len : Nat) (args : Array Value) (s : State) : Prop := args = #[.ref a, .ref b, .int (Int32.ofNat o), .int (Int32.ofNat len), .null] ∧ Blank "java/lang/String" a D s ∧ Found "java/lang/String" "value" "[B" fV s ∧ Found "java/lang/String" "coder" "B" fC s ∧ Ch b A s ∧ StaticIs s "java/lang/String" "COMPACT_STRINGS" "Z" (.int z) ∧ ¬ z = 0 ∧ 0 < len ∧ o + len ≤ A.slots.size ∧ len ≤ 536870912 ∧ ∀ i, i < len → ¬ 255 < cv A (o + i)
def E (a : Addr) (D : Cell) (fV fC : Field) (A : Cell) (o len : Nat) (r : Option Value) (s u : State) : Prop := Got a D fV fC A o len r s u
/-- len > 0, no char of the range above 255: a Latin-1 String of their low bytes -/
theorem law (l : Launch) (a : Addr) (D : Cell) (fV fC : Field) (b : Addr) (A : Cell) (z : Int32) (o len : Nat) : Law l yN 5 4 2 35 yB 6 none site (P a D fV fC b A z o len) (E a D fV fC A o len) [⟨a, fC.slot⟩, ⟨a, fV.slot⟩] 1 len := by
  refine Law.of_walk (plainFor_of_name (by decide +kernel)) (by decide +kernel) (by decide +kernel) (by decide) (fun _ _ h => by rw [h.1]; rfl) (fun _ U U' hal hh h => ⟨h.1, h.2.1.mv hal hh, h.2.2.1.al hal, h.2.2.2.1.al hal, h.2.2.2.2.1.mv hal hh, h.2.2.2.2.2.1.there hal hh, h.2.2.2.2.2.2⟩) (fun r U U' V V' h1 hal h2 h => Got.mv r U U' V V' h1 hal h2 h) ?_
  intro p e s m args below meth c s₁ X0 hexec hbytes hml hret hlk hnm hown hh0 W hP
  obtain ⟨rfl, hB, f1, f2, hA, s1, hz, l0, l1, l2, hp⟩ := hP
  have a31 := hA.1.2.2.2
  have c1 : Steps p.tables e below (s₁.setTop (entryFrame m #[.ref a, .ref b, .int (Int32.ofNat o), .int (Int32.ofNat len), .null] 6)) (s₁.setTop (mkF m 0 #[.val (.ref a), .val (.ref b), .val (.int (Int32.ofNat o)), .val (.int (Int32.ofNat len)), .val .null, .unset] [])) := entry rfl
  have c2 : Steps p.tables e below (s₁.setTop (entryFrame m #[.ref a, .ref b, .int (Int32.ofNat o), .int (Int32.ofNat len), .null] 6)) (s₁.setTop (mkF m 1 #[.val (.ref a), .val (.ref b), .val (.int (Int32.ofNat o)), .val (.int (Int32.ofNat len)), .val .null, .unset] [.ref a])) := c1.trans (by
    refine XS.aloadN X0.here hexec rfl (hb hbytes d0) rfl rfl ?_
    exact Steps.refl _)
  obtain ⟨T3, X3, q3, st3⟩ := X0.oinit hexec hown (wks W (objW "java/lang/String" 1)) (g := (mkF m 1 #[.val (.ref a), .val (.ref b), .val (.int (Int32.ofNat o)), .val (.int (Int32.ofNat len)), .val .null, .unset] [.ref a])) rfl (by rw [hml]; rfl) (rest := []) rfl (hb hbytes d1) (W := 0) (by show 2 * 0 + 0 ≤ _; decide) (Nat.le_of_ble_eq_true rfl) (Nat.le_of_ble_eq_true rfl)
  have hh3 := q3.trans hh0
  have c4 : Steps p.tables e below (s₁.setTop (entryFrame m #[.ref a, .ref b, .int (Int32.ofNat o), .int (Int32.ofNat len), .null] 6)) (T3.setTop (mkF m 27 #[.val (.ref a), .val (.ref b), .val (.int (Int32.ofNat o)), .val (.int (Int32.ofNat len)), .val .null, .unset] [])) := (c2.trans (st3 _ (Steps.refl _))).trans (by
    refine XS.iloadN X3.here hexec rfl (hb hbytes d4) rfl ?_
    refine XS.ifYes X3.here hexec rfl (pc0 := 5) rfl (hb hbytes d5) rfl (i0_ne_t (nz32 (by omega) l0)) (by decide) rfl ?_
    exact Steps.refl _)
  obtain ⟨T5, X5, q5, st5⟩ := X3.sget hexec hown (wk W (.fieldLink "java/lang/String" 38 "java/lang/String" "COMPACT_STRINGS" "Z")) s1 (fun _ _ h => by rw [hh3]; exact h) (g := (mkF m 27 #[.val (.ref a), .val (.ref b), .val (.int (Int32.ofNat o)), .val (.int (Int32.ofNat len)), .val .null, .unset] [])) rfl (hb hbytes d27)
  have hh5 := q5.trans hh3
  have c6 : Steps p.tables e below (s₁.setTop (entryFrame m #[.ref a, .ref b, .int (Int32.ofNat o), .int (Int32.ofNat len), .null] 6)) (T5.setTop (mkF m 30 #[.val (.ref a), .val (.ref b), .val (.int (Int32.ofNat o)), .val (.int (Int32.ofNat len)), .val .null, .unset] [.int z])) := c4.trans (st5 _ (Steps.refl _))
  have c7 : Steps p.tables e below (s₁.setTop (entryFrame m #[.ref a, .ref b, .int (Int32.ofNat o), .int (Int32.ofNat len), .null] 6)) (T5.setTop (mkF m 36 #[.val (.ref a), .val (.ref b), .val (.int (Int32.ofNat o)), .val (.int (Int32.ofNat len)), .val .null, .unset] [.int (Int32.ofNat len), .int (Int32.ofNat o), .ref b])) := c6.trans (by
    refine XS.ifNo X5.here hexec rfl (hb hbytes d30) rfl (i0_eq_f hz) ?_
    refine XS.aloadN X5.here hexec rfl (hb hbytes d33) rfl rfl ?_
    refine XS.iloadN X5.here hexec rfl (hb hbytes d34) rfl ?_
    refine XS.iloadN X5.here hexec rfl (hb hbytes d35) rfl ?_
    exact Steps.refl _)
  obtain ⟨v8, T8, X8, E8, g8⟩ := X5.callS hexec (Cmp3.law l b A o len) hown (wks W (staticW "java/lang/String" 177 Cmp3.yN)) (wk W Cmp3.tab) (W := 0) (Nat.le_of_ble_eq_true rfl) (Nat.le_of_ble_eq_true rfl) (Nat.le_refl _) (by show 0 + len ≤ len; omega) (g := (mkF m 36 #[.val (.ref a), .val (.ref b), .val (.int (Int32.ofNat o)), .val (.int (Int32.ofNat len)), .val .null, .unset] [.int (Int32.ofNat len), .int (Int32.ofNat o), .ref b])) rfl (by rw [hml]; rfl) c7 (argsL := [.ref b, .int (Int32.ofNat o), .int (Int32.ofNat len)]) (rest := []) rfl rfl (by show 2 * 0 + 0 ≤ _; decide) (hb hbytes d36) (⟨rfl, hA.mv X5.warmed.alike hh5, l1, l2, hp⟩)
  obtain ⟨e8, z8⟩ := E8
  obtain ⟨rfl, N, n1, n2, n3, n4, n5, n6⟩ := NewArr.mv _ T5 s _ _ hh5.symm (Vm.Alike.refl _) rfl e8
  rw [hh5] at z8
  have hB1 := hB.keep X8.warmed.alike (n6 _ _ hB.1)
  have hne : s.heap.size ≠ a := (Nat.ne_of_lt (Array.getElem?_eq_some_iff.mp hB.1).1).symm
  have c9 : Steps p.tables e below (s₁.setTop (entryFrame m #[.ref a, .ref b, .int (Int32.ofNat o), .int (Int32.ofNat len), .null] 6)) (T8.setTop (mkF m 39 #[.val (.ref a), .val (.ref b), .val (.int (Int32.ofNat o)), .val (.int (Int32.ofNat len)), .val .null, .unset] [.ref s.heap.size])) := g8
  have c10 : Steps p.tables e below (s₁.setTop (entryFrame m #[.ref a, .ref b, .int (Int32.ofNat o), .int (Int32.ofNat len), .null] 6)) (T8.setTop (mkF m 45 #[.val (.ref a), .val (.ref b), .val (.int (Int32.ofNat o)), .val (.int (Int32.ofNat len)), .val .null, .val (.ref s.heap.size)] [.int (Int32.ofNat N.slots.size), .ref s.heap.size, .ref a])) := by
    have hc : Steps p.tables e below (s₁.setTop (entryFrame m #[.ref a, .ref b, .int (Int32.ofNat o), .int (Int32.ofNat len), .null] 6)) (T8.setTop (mkF m 45 #[.val (.ref a), .val (.ref b), .val (.int (Int32.ofNat o)), .val (.int (Int32.ofNat len)), .val .null, .val (.ref s.heap.size)] [.int (Int32.ofNat len), .ref s.heap.size, .ref a])) := c9.trans (by
      refine XS.astore X8.here hexec rfl (hb hbytes d39) rfl rfl rfl ?_
      refine XS.aloadN X8.here hexec rfl (hb hbytes d41) rfl rfl ?_
      refine XS.aload X8.here hexec rfl (hb hbytes d42) rfl rfl ?_
      refine XS.iloadN X8.here hexec rfl (hb hbytes d44) rfl ?_
      exact Steps.refl _)
    rw [n4]; exact hc
  obtain ⟨v11, T11, X11, E11, g11⟩ := X8.callS hexec (CodL.law l s.heap.size N) hown (wks W (staticW "java/lang/String" 47 CodL.yN)) (wk W CodL.tab) (W := 1) (Nat.le_of_ble_eq_true rfl) (Nat.le_of_ble_eq_true rfl) (Nat.le_refl _) (by show 0 + len + 0 ≤ len; omega) (g := (mkF m 45 #[.val (.ref a), .val (.ref b), .val (.int (Int32.ofNat o)), .val (.int (Int32.ofNat len)), .val .null, .val (.ref s.heap.size)] [.int (Int32.ofNat N.slots.size), .ref s.heap.size, .ref a])) rfl (by rw [hml]; rfl) c10 (argsL := [.ref s.heap.size, .int (Int32.ofNat N.slots.size)]) (rest := [.ref a]) rfl rfl (by show 2 * 0 + (1 + 0) ≤ _; decide) (hb hbytes d45) (⟨rfl, n1⟩)
  obtain ⟨rfl, q11⟩ := E11
  have hB11 := hB1.mv (X8.warmed.alike.symm.trans X11.warmed.alike) q11
  have c12 : Steps p.tables e below (s₁.setTop (entryFrame m #[.ref a, .ref b, .int (Int32.ofNat o), .int (Int32.ofNat len), .null] 6)) (T11.setTop (mkF m 48 #[.val (.ref a), .val (.ref b), .val (.int (Int32.ofNat o)), .val (.int (Int32.ofNat len)), .val .null, .val (.ref s.heap.size)] [.int 0, .ref a])) := g11
  obtain ⟨T13, X13, p13, bl13, sl13, st13⟩ := X11.finit hexec hown (wk W (.fieldLink "java/lang/String" 15 "java/lang/String" "coder" "B")) (Or.inr ⟨_, (wk W (.laysFinal "java/lang/String" "java/lang/String" "coder" "B"))⟩) (Or.inl ⟨rfl, hnm⟩) f2 (Or.inl rfl) hB11 (t := .byte) (by decide +kernel) rfl (g := (mkF m 48 #[.val (.ref a), .val (.ref b), .val (.int (Int32.ofNat o)), .val (.int (Int32.ofNat len)), .val .null, .val (.ref s.heap.size)] [.int 0, .ref a])) rfl (rest := []) rfl (hb hbytes d48)
  have c14 : Steps p.tables e below (s₁.setTop (entryFrame m #[.ref a, .ref b, .int (Int32.ofNat o), .int (Int32.ofNat len), .null] 6)) (T13.setTop (mkF m 54 #[.val (.ref a), .val (.ref b), .val (.int (Int32.ofNat o)), .val (.int (Int32.ofNat len)), .val .null, .val (.ref s.heap.size)] [.ref s.heap.size, .ref a])) := (c12.trans (st13 _ (Steps.refl _))).trans (by
    refine XS.aloadN X13.here hexec rfl (hb hbytes d51) rfl rfl ?_
    refine XS.aload X13.here hexec rfl (hb hbytes d52) rfl rfl ?_
    exact Steps.refl _)
  obtain ⟨T15, X15, p15, bl15, sl15, st15⟩ := X13.finit hexec hown (wk W (.fieldLink "java/lang/String" 9 "java/lang/String" "value" "[B")) (Or.inr ⟨_, (wk W (.laysFinal "java/lang/String" "java/lang/String" "value" "[B"))⟩) (Or.inl ⟨rfl, hnm⟩) f1 (Or.inl rfl) bl13 (t := (.array .byte)) (by decide +kernel) rfl (g := (mkF m 54 #[.val (.ref a), .val (.ref b), .val (.int (Int32.ofNat o)), .val (.int (Int32.ofNat len)), .val .null, .val (.ref s.heap.size)] [.ref s.heap.size, .ref a])) rfl (rest := []) rfl (hb hbytes d54)
  have c16 : Steps p.tables e below (s₁.setTop (entryFrame m #[.ref a, .ref b, .int (Int32.ofNat o), .int (Int32.ofNat len), .null] 6)) (T15.setTop (mkF m 57 #[.val (.ref a), .val (.ref b), .val (.int (Int32.ofNat o)), .val (.int (Int32.ofNat len)), .val .null, .val (.ref s.heap.size)] [])) := c14.trans (st15 _ (Steps.refl _))
  have ap := apart (Or.inr ⟨_, (wk W (.laysFinal "java/lang/String" "java/lang/String" "value" "[B"))⟩) (Or.inr ⟨_, (wk W (.laysFinal "java/lang/String" "java/lang/String" "coder" "B"))⟩) f1 f2 (t₁ := .array .byte) (t₂ := .byte) (by decide +kernel) (by decide +kernel) (by decide)
  have al := X8.warmed.alike.symm.trans X15.warmed.alike
  have n7 : T11.heap[s.heap.size]? = some N := by rw [q11]; exact n1.1
  exact ⟨T15, none, _, _, _, X15, by simp, rfl, by omega, (fun _ => rfl), ⟨rfl, _, N, bl15, ((Same.refl D _).set _ (by simp)).set _ (by simp), sl15, (Cell.slots_setSlot_ne _ ap).trans sl13, n1.keep al (p15.other hne (p13.other hne n7)), n2, by rw [al.findClass]; exact n3, n4, n5, fun y c h1 h2 => p15.other h1 (p13.other h1 (by rw [q11]; exact n6 y c h2)), by rw [p15.2.2, p13.2.2, q11]; exact z8⟩, fun fs hl => c16.trans (X15.returnOut hexec hret (hb hbytes d57) hl)⟩
end New4
namespace New1
def yN : MethodName := ⟨"java/lang/String", "<init>", "([C)V"⟩
abbrev yB : ByteArray := jdk_42_method_3_code
theorem d0 : decode yB 0 = .ok (.aload_n 0, 1) := by decide +kernel
theorem d1 : decode yB 1 = .ok (.aload_n 1, 1) := by decide +kernel
theorem d2 : decode yB 2 = .ok (.iconst 0, 1) := by decide +kernel
theorem d3 : decode yB 3 = .ok (.aload_n 1, 1) := by decide +kernel
theorem d4 : decode yB 4 = .ok (.arraylength, 1) := by decide +kernel
theorem d5 : decode yB 5 = .ok (.aconst_null, 1) := by decide +kernel
theorem d6 : decode yB 6 = .ok (.invokespecial 27, 3) := by decide +kernel
theorem d9 : decode yB 9 = .ok (.return_, 1) := by decide +kernel
def site : List Cond := [New4.tab] ++ initW "java/lang/String" 27 New4.yN
def tab : Cond := tabOf yN yB 2 none site
def P (a : Addr) (D : Cell) (fV fC : Field) (b : Addr) (A : Cell) (z : Int32) (args : Array Value) (s : State) : Prop := args = #[.ref a, .ref b] ∧ Blank "java/lang/String" a D s ∧ Found "java/lang/String" "value" "[B" fV s ∧ Found "java/lang/String" "coder" "B" fC s ∧ Ch b A s ∧ StaticIs s "java/lang/String" "COMPACT_STRINGS" "Z" (.int z) ∧ ¬ z = 0 ∧ 0 < A.slots.size ∧ A.slots.size ≤ 536870912 ∧ ∀ i, i < A.slots.size → ¬ 255 < cv A i
def E (a : Addr) (D : Cell) (fV fC : Field) (A : Cell) (r : Option Value) (s u : State) : Prop := Got a D fV fC A 0 A.slots.size r s u
/-- new String(chars), not empty, no char above 255: a Latin-1 String of their low bytes -/
theorem law (l : Launch) (a : Addr) (D : Cell) (fV fC : Field) (b : Addr) (A : Cell) (z : Int32) : Law l yN 2 1 3 52 yB 2 none site (P a D fV fC b A z) (E a D fV fC A) [⟨a, fC.slot⟩, ⟨a, fV.slot⟩] 1 A.slots.size := by
  refine Law.of_walk (plainFor_of_name (by decide +kernel)) (by decide +kernel) (by decide +kernel) (by decide) (fun _ _ h => by rw [h.1]; rfl) (fun _ U U' hal hh h => ⟨h.1, h.2.1.mv hal hh, h.2.2.1.al hal, h.2.2.2.1.al hal, h.2.2.2.2.1.mv hal hh, h.2.2.2.2.2.1.there hal hh, h.2.2.2.2.2.2⟩) (fun r U U' V V' h1 hal h2 h => Got.mv r U U' V V' h1 hal h2 h) ?_
  intro p e s m args below meth c s₁ X0 hexec hbytes hml hret hlk hnm hown hh0 W hP
  obtain ⟨rfl, hB, f1, f2, hA, s1, hz, l0, l2, hp⟩ := hP
  have c1 : Steps p.tables e below (s₁.setTop (entryFrame m #[.ref a, .ref b] 2)) (s₁.setTop (mkF m 0 #[.val (.ref a), .val (.ref b)] [])) := entry rfl
  have c2 : Steps p.tables e below (s₁.setTop (entryFrame m #[.ref a, .ref b] 2)) (s₁.setTop (mkF m 6 #[.val (.ref a), .val (.ref b)] [.null, .int (Int32.ofNat A.slots.size), .int 0, .ref b, .ref a])) := c1.trans (by
    refine XS.aloadN X0.here hexec rfl (hb hbytes d0) rfl rfl ?_
    refine XS.aloadN X0.here hexec rfl (hb hbytes d1) rfl rfl ?_
    refine iconstV X0.here hexec rfl 0 (hb hbytes d2) (by decide) ?_
    refine XS.aloadN X0.here hexec rfl (hb hbytes d3) rfl rfl ?_
    refine X0.alen hexec (hA.1.mv X0.warmed.alike hh0) rfl rfl (hb hbytes d4) ?_
    refine XS.aconstNull X0.here hexec rfl (hb hbytes d5) ?_
    exact Steps.refl _)
  obtain ⟨v3, T3, X3, E3, g3⟩ := X0.callN hexec (New4.law l a D fV fC b A z 0 A.slots.size) rfl hown (wks W (initW "java/lang/String" 27 New4.yN)) (W New4.tab (by simp only [site, List.mem_cons, List.mem_append, true_or, or_true])) (W := 0) (Nat.le_of_ble_eq_true rfl) (Nat.le_of_ble_eq_true rfl) (Nat.le_refl _) (by show 0 + A.slots.size ≤ A.slots.size; omega) (g := (mkF m 6 #[.val (.ref a), .val (.ref b)] [.null, .int (Int32.ofNat A.slots.size), .int (Int32.ofNat 0), .ref b, .ref a])) rfl (by rw [hml]; rfl) c2 (argsL := [.ref b, .int (Int32.ofNat 0), .int (Int32.ofNat A.slots.size), .null]) (rest := []) rfl rfl (by show 2 * 0 + 0 ≤ _; decide) (hb hbytes d6) (⟨rfl, hB.mv X0.warmed.alike hh0, f1.al X0.warmed.alike, f2.al X0.warmed.alike, hA.mv X0.warmed.alike hh0, s1.there X0.warmed.alike hh0, hz, l0, by omega, l2, fun i hi => by rw [Nat.zero_add]; exact hp i hi⟩)
  have e0 := Got.mv _ s₁ s _ _ hh0.symm (Vm.Alike.refl _) rfl E3
  obtain rfl := e0.1
  have c4 : Steps p.tables e below (s₁.setTop (entryFrame m #[.ref a, .ref b] 2)) (T3.setTop (mkF m 9 #[.val (.ref a), .val (.ref b)] [])) := g3
  exact ⟨T3, none, _, _, _, X3, by simp, rfl, by omega, (fun _ => rfl), e0, fun fs hl => c4.trans (X3.returnOut hexec hret (hb hbytes d9) hl)⟩
theorem pays {l : Launch} {R : Room} {p : Program} {e : Env} {below : List Frame} {s : State} {sargs : Array Value} {len W : Nat} (a : Addr) (D : Cell) (fV fC : Field) (b : Addr) (A : Cell) (z : Int32) (htab : tab.before sargs s = true) (hfr : 4 ≤ R.frames) (hlo : W + 65 ≤ R.locals) :
    Back l R p e below s sargs yN len W (fun A₁ a₁ => A₁.cells + 1 ≤ R.cells ∧ A₁.slots + A.slots.size ≤ R.slots ∧ P a D fV fC b A z a₁ A₁.U) (fun A₁ _ v₁ B₁ => E a D fV fC A v₁ A₁.U B₁.U ∧ B₁.locs = A₁.locs ++ [⟨a, fC.slot⟩, ⟨a, fV.slot⟩] ∧ B₁.cells = A₁.cells + 1 ∧ B₁.slots = A₁.slots + A.slots.size) :=
  (law l a D fV fC b A z).pays htab hfr (by omega)
end New1
/-- the byte, read back as charAt reads it, is the char -/
theorem lo8_mask {x : Int32} (h0 : ¬ x < 0) (h1 : ¬ 255 < x) : lo8 x &&& 255 = x := by
  have t : ∀ k : Fin 256, lo8 (Int32.ofNat k.val) &&& 255 = Int32.ofNat k.val := by decide +kernel
  rw [Int32.lt_iff_toInt_lt] at h0 h1
  have e0 : (0 : Int32).toInt = 0 := rfl
  have e1 : (255 : Int32).toInt = 255 := rfl
  obtain ⟨k, hk⟩ : ∃ k : Nat, x.toInt = k := ⟨x.toInt.toNat, by omega⟩
  have hx : x = Int32.ofNat k := Int32.toInt_inj.mp (by rw [hk, Int32.toInt_ofNat_small (by omega)])
  rw [hx]
  exact t ⟨k, by omega⟩
end StrChars
namespace StrChars.Road
open Jvm Sem ClassFile Op Lib Jvm.Stand Jvm.Free Jvm.Free.XT
open Jvm.Lib.Cold (StaticIs)
abbrev ST : String := "java/lang/String"
/-- every table word that New1's law asks, flat -/
abbrev words : List Jvm.Cond := [.code New1.yN New1.yB 2 none, .initialized ST, .methodLink ST 27 New4.yN, .instanceMethod New4.yN,
  .code New4.yN New4.yB 6 none, .fieldLink ST 38 ST "COMPACT_STRINGS" "Z", .laysFinal ST ST "value" "[B", .fieldLink ST 9 ST "value" "[B", .laysFinal ST ST "coder" "B", .fieldLink ST 15 ST "coder" "B",
  .methodLink ST 1 Lib.objectInit, .instanceMethod Lib.objectInit, .code Lib.objectInit ⟨#[0xb1]⟩ 1 none, .methodLink ST 177 Cmp3.yN, .static Cmp3.yN, .methodLink ST 47 CodL.yN, .static CodL.yN,
  .code Cmp3.yN Cmp3.yB 6 (some (.array .byte)), .initialized U16, .arrayClass .byte, .methodLink U16 115 Cmp5.yN, .static Cmp5.yN, .code Cmp5.yN Cmp5.yB 7 (some .int), .code CodL.yN CodL.yB 2 (some .byte)]
theorem tab_of {a : Array Value} {s : State} (h : ∀ w ∈ words, w.before a s = true) : New1.tab.before a s = true := by
  have h5 : Cmp5.tab.before a s = true := unparts (wk h (.code Cmp5.yN Cmp5.yB 7 (some .int))) (wks h (.initialized Cmp5.yN.cls :: Cmp5.site))
  have hc : CodL.tab.before a s = true := unparts (wk h (.code CodL.yN CodL.yB 2 (some .byte))) (wks h (.initialized CodL.yN.cls :: CodL.site))
  have q5 : ∀ w ∈ Cmp5.tab :: words, w.before a s = true := fun w hw => (List.mem_cons.mp hw).elim (fun e => e ▸ h5) (h w)
  have h3 : Cmp3.tab.before a s = true := unparts (wk q5 (.code Cmp3.yN Cmp3.yB 6 (some (.array .byte)))) (wks q5 (.initialized Cmp3.yN.cls :: Cmp3.site))
  have q3 : ∀ w ∈ Cmp3.tab :: CodL.tab :: words, w.before a s = true := fun w hw => (List.mem_cons.mp hw).elim (fun e => e ▸ h3) fun hw => (List.mem_cons.mp hw).elim (fun e => e ▸ hc) (h w)
  have h4 : New4.tab.before a s = true := unparts (wk q3 (.code New4.yN New4.yB 6 none)) (wks q3 (.initialized New4.yN.cls :: New4.site))
  have q4 : ∀ w ∈ New4.tab :: words, w.before a s = true := fun w hw => (List.mem_cons.mp hw).elim (fun e => e ▸ h4) (h w)
  exact unparts (wk q4 (.code New1.yN New1.yB 2 none)) (wks q4 (.initialized New1.yN.cls :: New1.site))
/-- the words ride from the start Z to the walk's own state -/
theorem moved {Z s : State} {a0 args : Array Value} (hZ : Z.Warmed39 s.vm) (hw : ∀ d ∈ words, d.before a0 Z = true) : ∀ d ∈ words, d.before args s = true := fun d hd => by
  have q := hw d hd
  have t : ∀ d ∈ words, d = .arrayClass .byte ∨ (d.onTables && d.keepsFace) = true := by decide +kernel
  rcases t d hd with rfl | t
  · exact RoadKit.mvA hZ q
  · exact RoadKit.mv hZ q t
/-- WHAT COMES BACK, over the tables of the start Z: h the heap at the call, h' behind it -/
def Q (Z : State) (x : Addr) (A : Cell) (h : Heap) (v : Option Value) (h' : Heap) (L : List Loc) : Prop := v = none ∧ (∀ y ∈ L, y.base = x) ∧ RoadKit.Keep h h' [x] ∧ h'.size = h.size + 1 ∧ RoadKit.Exa Z h' x ST ∧ RoadKit.Fld Z h' x ST "value" "[B" (.ref h.size) ∧ RoadKit.Fld Z h' x ST "coder" "B" (.int 0) ∧
  (∃ V : Cell, RoadKit.Arr Z h' h.size V .byte ∧ V.vm = .none ∧ Z.vm.findClass "[B" = some V.cls ∧ V.slots.size = A.slots.size ∧ ∀ j, j < A.slots.size → V.slots[j]? = some (.int (lo8 (cv A j)))) ∧
  ∀ (O n d : String) (w : Value), RoadKit.Fld Z h x O n d w → RoadKit.slotOf Z O n d ≠ RoadKit.slotOf Z ST "value" "[B" → RoadKit.slotOf Z O n d ≠ RoadKit.slotOf Z ST "coder" "B" → RoadKit.Fld Z h' x O n d w
/-- **new String(chars) AT A CALL, IN THE ROAD'S FORM**: for specialBack behind newO: x the fresh String, b the char[] with the cell A -/
theorem back {p : Program} {l : Launch} {e : Env} {R : Room} {s : State} {args : Array Value} {below : List Frame} {len W : Nat} {Z : State} {a0 : Array Value} {h : Heap} (hZ : Z.Warmed39 s.vm) (hw : ∀ d ∈ words, d.before a0 Z = true) {kI : Nat} (wi : (Jvm.Cond.instantiable ST kI).before a0 Z = true)
    {x b : Addr} {A : Cell} {z : Int32} {v0 c0 : Value} (E : RoadKit.Exa Z h x ST) (V : RoadKit.Fld Z h x ST "value" "[B" v0) (C : RoadKit.Fld Z h x ST "coder" "B" c0) (K : RoadKit.Arr Z h b A .char) (hty : Typed .char A) (S : RoadKit.Sta Z h ST "COMPACT_STRINGS" "Z" (.int z)) (hz : ¬ z = 0)
    (l0 : 0 < A.slots.size) (l2 : A.slots.size ≤ 536870912) (hp : ∀ i, i < A.slots.size → ¬ 255 < cv A i) (hfr : 4 ≤ R.frames) (hlo : W + 65 ≤ R.locals) :
    Back l R p e below s args New1.yN len W (fun P a => a = #[.ref x, .ref b] ∧ P.U.heap = h ∧ P.cells + 1 ≤ R.cells ∧ P.slots + A.slots.size ≤ R.slots)
      (fun P _ v B => ∃ L, Q Z x A h v B.U.heap L ∧ B.locs = P.locs ++ L ∧ B.cells = P.cells + 1 ∧ B.slots = P.slots + A.slots.size) := by
  intro m meth c P g ig mk a X hg hsize hdg hW hn hp'
  obtain ⟨rfl, rfl, r1, r2⟩ := hp'
  have al : Z.vm.Alike P.U.vm := hZ.alike.trans X.warmed.alike
  obtain ⟨D, cfV, kV, iV, fV, hD, gV, stV, knV, obV, asV, slV⟩ := id V
  obtain ⟨D', cfC, kC, iC, fC, hD', gC, stC, -, -, asC, slC⟩ := id C
  cases hD.symm.trans hD'
  obtain ⟨D2, kD, e1, e2, e3, e4, e5⟩ := id E
  cases hD.symm.trans e1
  obtain ⟨c2, k2, i1, i2, i3, -⟩ := Cond.instantiable_spec wi
  cases e2.symm.trans i1
  cases e3.symm.trans i2
  obtain ⟨kU, u1, u2⟩ := al.2.2 _ _ e3
  have hB : Blank ST x D P.U := ⟨hD, ⟨knV, fun q hq => by rw [hq] at obV; cases obV⟩, by rw [al.findClass]; exact e2, kU, u1, by rw [u2]; exact i3, by rw [u2]; exact e5 i3⟩
  have F1 : Found ST "value" "[B" fV P.U := ⟨SBG.found_only al ⟨cfV, kV, iV, gV⟩, stV⟩
  have F2 : Found ST "coder" "B" fC P.U := ⟨SBG.found_only al ⟨cfC, kC, iC, gC⟩, stC⟩
  have hA : Ch b A P.U := ⟨⟨K.1, State.isArrayOf_alike al K.2.1, K.2.2, by omega⟩, hty⟩
  have hS : StaticIs P.U ST "COMPACT_STRINGS" "Z" (.int z) := by
    obtain ⟨cfS, iS, kS, fS, st, cS, t1, t2, t3, t4, t5, t6, t7⟩ := S
    exact StaticIs.there (s := { Z with heap := P.U.heap }) ⟨cfS, iS, kS, fS, st, cS, t1, t2, t3, t4, t5, (fun q => by rw [q] at t6; cases t6), t7⟩ al rfl
  obtain ⟨v, B, X', ⟨⟨hv, E', V', q1, q2, q3, q4, q5, q6, q7, q8, q9, q10, q11⟩, hl, hc, hs⟩, st⟩ := New1.pays x D fV fC b A z (tab_of (moved hZ hw)) hfr hlo m meth c P g ig mk _ X hg hsize hdg hW hn ⟨r1, r2, rfl, hB, F1, F2, hA, hS, hz, l0, l2, hp⟩
  have al' : Z.vm.Alike B.U.vm := hZ.alike.trans X'.warmed.alike
  have hsz : E'.slots.size = D.slots.size := by
    obtain ⟨-, -, -, kB, w1, w2, w3⟩ := q1
    obtain ⟨kB', y1, y2⟩ := al'.2.2 _ _ e3
    rw [q2.2.1] at w1
    cases w1.symm.trans y1
    rw [w3, e5 i3, y2]
  refine ⟨v, B, X', ⟨_, ⟨hv, ?_, ⟨by omega, fun y cy hy hn' => q10 y cy (by simpa using hn') hy, fun y cy hy => ?_⟩, q11, ⟨E', _, q1.1, by rw [q2.2.1]; exact e2, by rw [q2.2.1]; exact e3, by rw [q2.1]; exact obV, fun _ => by rw [hsz]; exact e5 i3⟩,
    ⟨E', cfV, kV, iV, fV, q1.1, gV, stV, by rw [q2.1]; exact knV, by rw [q2.1]; exact obV, by rw [q2.2.1]; exact asV, q3⟩, ⟨E', cfC, kC, iC, fC, q1.1, gC, stC, by rw [q2.1]; exact knV, by rw [q2.1]; exact obV, by rw [q2.2.1]; exact asC, q4⟩,
    ⟨V', ⟨q5.1, State.isArrayOf_alike al'.symm q5.2.1, q5.2.2.1⟩, q6, by rw [← al'.findClass]; exact q7, q8, fun j hj => by have := q9 j hj; rwa [Nat.zero_add] at this⟩, fun O n d w F n1 n2 => ?_⟩, hl, hc, hs⟩, st⟩
  · intro y hy
    simp only [List.mem_cons, List.not_mem_nil, or_false] at hy
    rcases hy with rfl | rfl <;> rfl
  · by_cases q : y = x
    · subst q
      cases hD.symm.trans hy
      exact ⟨E', q1.1, q2.2.1, q2.1, hsz⟩
    · exact ⟨cy, q10 y cy q hy, rfl, rfl, rfl⟩
  · obtain ⟨D3, cf, k, i, f, g1, g2, g3, g4, g5, g6, g7⟩ := F
    cases hD.symm.trans g1
    simp only [RoadKit.slotOf, g2, gV, gC, Option.map_some, Option.getD_some] at n1 n2
    exact ⟨E', cf, k, i, f, q1.1, g2, g3, by rw [q2.1]; exact g4, by rw [q2.1]; exact g5, by rw [q2.2.1]; exact g6, by rw [q2.2.2 f.slot (by simp [n1, n2])]; exact g7⟩
end StrChars.Road
namespace StrChars.Road
open Jvm Sem ClassFile Op Lib Jvm.Stand Jvm.Free Jvm.Free.XT
/-- WHAT COMES BACK, the byte[] as a list of values -/
def QA (Z : State) (x : Addr) (zn : Int32) (cs : List Int32) (h : Heap) (v : Option Value) (h' : Heap) (L : List Loc) : Prop := v = none ∧ (∀ y ∈ L, y.base = x) ∧ RoadKit.Keep h h' [x] ∧ h'.size = h.size + 1 ∧ RoadKit.Exa Z h' x ST ∧ RoadKit.Fld Z h' x ST "value" "[B" (.ref h.size) ∧ RoadKit.Fld Z h' x ST "coder" "B" (.int 0) ∧
  (∃ kb, Z.vm.findClass "[B" = some kb ∧ RoadKit.Arv Z h' h.size kb .byte zn (cs.map fun c => .int (lo8 c)) (.int 0)) ∧
  ∀ (O n d : String) (w : Value), RoadKit.Fld Z h x O n d w → RoadKit.slotOf Z O n d ≠ RoadKit.slotOf Z ST "value" "[B" → RoadKit.slotOf Z O n d ≠ RoadKit.slotOf Z ST "coder" "B" → RoadKit.Fld Z h' x O n d w
/-- **new String(chars) AT A CALL, THE ARRAYS AS LISTS**: the char[] at b holds cs, not empty, no char above 255 -/
theorem backArv {p : Program} {l : Launch} {e : Env} {R : Room} {s : State} {args : Array Value} {below : List Frame} {len W : Nat} {Z : State} {a0 : Array Value} {h : Heap} (hZ : Z.Warmed39 s.vm) (hw : ∀ d ∈ words, d.before a0 Z = true) {kI : Nat} (wi : (Jvm.Cond.instantiable ST kI).before a0 Z = true)
    {x b : Addr} {k : ClassId} {zn z : Int32} {cs : List Int32} {dv v0 c0 : Value} (E : RoadKit.Exa Z h x ST) (V : RoadKit.Fld Z h x ST "value" "[B" v0) (C : RoadKit.Fld Z h x ST "coder" "B" c0) (K : RoadKit.Arv Z h b k .char zn (cs.map Value.int) dv) (S : RoadKit.Sta Z h ST "COMPACT_STRINGS" "Z" (.int z)) (hz : ¬ z = 0)
    (hlen : zn.toNatClampNeg = cs.length) (h0 : 0 < cs.length) (hbig : cs.length ≤ 536870912) (hall : ∀ c ∈ cs, ¬ 255 < c) (hfr : 4 ≤ R.frames) (hlo : W + 65 ≤ R.locals) :
    Back l R p e below s args New1.yN len W (fun P a => a = #[.ref x, .ref b] ∧ P.U.heap = h ∧ P.cells + 1 ≤ R.cells ∧ P.slots + cs.length ≤ R.slots)
      (fun P _ v B => ∃ L, QA Z x zn cs h v B.U.heap L ∧ B.locs = P.locs ++ L ∧ B.cells = P.cells + 1 ∧ B.slots = P.slots + cs.length) := by
  obtain ⟨A, K1, K2, K3, K4, K5, K6⟩ := K
  have e : A.slots.size = cs.length := K3.trans hlen
  have hat : ∀ (i : Nat) (hi : i < cs.length), A.slots[i]? = some (.int cs[i]) := fun i hi => by rw [K5 i (by omega)]; simp [List.getD_eq_getElem?_getD, hi]
  have hcv : ∀ (i : Nat) (hi : i < cs.length), cv A i = cs[i] := fun i hi => by unfold cv; rw [hat i hi]
  have hty : Typed .char A := fun i v hv => by
    have hi : i < A.slots.size := (Array.getElem?_eq_some_iff.mp hv).1
    have q := K5 i hi
    rw [hv] at q
    rw [Option.some.inj q]
    exact K6 i hi
  refine Back.mono (back hZ hw wi E V C K1 hty S hz (by omega) (by omega) (fun i hi => by rw [hcv i (by omega)]; exact hall _ (List.getElem_mem _)) hfr hlo) (fun P a hp => ⟨hp.1, hp.2.1, hp.2.2.1, by rw [e]; exact hp.2.2.2⟩) (fun P a v B hp hq => ?_)
  obtain ⟨L, ⟨q1, q2, q3, q4, q5, q6, q7, ⟨V', v1, v2, v3, v4, v5⟩, q9⟩, hl, hc, hs⟩ := hq
  refine ⟨L, ⟨q1, q2, q3, q4, q5, q6, q7, ⟨V'.cls, v3, V', v1, rfl, by rw [v4, e, hlen], K4, fun i hi => ?_, fun i hi => ?_⟩, q9⟩, hl, hc, by rw [hs, e]⟩
  · have hi' : i < cs.length := by omega
    rw [v5 i (by omega), hcv i hi']; simp [List.getD_eq_getElem?_getD, hi']
  · have hi' : i < cs.length := by omega
    simp only [List.getD_eq_getElem?_getD, List.getElem?_map, List.getElem?_eq_getElem hi', Option.map_some, Option.getD_some]
    exact fits_lo8 _
end StrChars.Road
namespace StrChars.Road
open Jvm Sem ClassFile Op Lib Jvm.Stand Jvm.Free Jvm.Free.XT
/-- WHAT COMES BACK, in the writer's own shape -/
def QV (Z : State) (x : Addr) (N : Int32) (bs : List Int32) (h : Heap) (n0 : Nat) (v : Option Value) (h' : Heap) (L : List Loc) : Prop := v = none ∧ RoadKit.Fr n0 L ∧ RoadKit.Keep h h' [x] ∧ RoadKit.Exa Z h' x ST ∧ RoadKit.Fld Z h' x ST "coder" "B" (.int 0) ∧
  ∃ (t : Addr) (kb : ClassId), n0 ≤ t ∧ h.size ≤ t ∧ ¬ t = x ∧ RoadKit.Fld Z h' x ST "value" "[B" (.ref t) ∧ RoadKit.Arv Z h' t kb .byte N (bs.map Value.int) (.int 0)
/-- **new String(chars) AT A CALL, FOR THE WRITER**: a char[] of n known ints, each 0 to 255 -/
theorem backV {p : Program} {l : Launch} {e : Env} {R : Room} {s : State} {args : Array Value} {below : List Frame} {len W : Nat} {Z : State} {a0 : Array Value} {h : Heap} (hZ : Z.Warmed39 s.vm) (hw : ∀ d ∈ words, d.before a0 Z = true) {kI : Nat} (wi : (Jvm.Cond.instantiable ST kI).before a0 Z = true)
    {x b : Addr} {kC : ClassId} {cs bs : List Int32} {d v0 c0 : Value} {z N : Int32} {n n0 : Nat} (hx0 : n0 ≤ x) (hh0 : n0 ≤ h.size) (E : RoadKit.Exa Z h x ST) (V : RoadKit.Fld Z h x ST "value" "[B" v0) (C : RoadKit.Fld Z h x ST "coder" "B" c0) (K : RoadKit.Arv Z h b kC .char N (cs.map Value.int) d) (S : RoadKit.Sta Z h ST "COMPACT_STRINGS" "Z" (.int z)) (hz : ¬ z = 0)
    (hn : cs.length = n) (hN : N = Int32.ofNat n) (l0 : 0 < n) (l2 : n ≤ 4000) (hp : ∀ c ∈ cs, ¬ c < 0 ∧ ¬ (255 : Int32) < c) (hb : bs = cs.map (fun c => c.toInt8.toInt32)) (hfr : 4 ≤ R.frames) (hlo : W + 65 ≤ R.locals) :
    Back l R p e below s args (⟨"java/lang/String", "<init>", "([C)V"⟩ : MethodName) len W (fun P a => a = #[.ref x, .ref b] ∧ P.U.heap = h ∧ P.cells + 1 ≤ R.cells ∧ P.slots + n ≤ R.slots)
      (fun P _ v B => ∃ L, QV Z x N bs h n0 v B.U.heap L ∧ B.locs = P.locs ++ L ∧ B.cells = P.cells + 1 ∧ B.slots = P.slots + n) := by
  subst hn hN hb
  refine Back.mono (backArv hZ hw wi E V C K S hz (n32 (by omega)) l0 (by omega) (fun c hc => (hp c hc).2) hfr hlo) (fun P a hp => hp) (fun P a v B hp hq => ?_)
  obtain ⟨L, ⟨q1, q2, q3, q4, q5, q6, q7, ⟨kb, v1, v2⟩, q9⟩, hl, hc, hs⟩ := hq
  exact ⟨L, ⟨q1, fun y hy => by rw [q2 y hy]; exact hx0, q3, q5, q7, h.size, kb, hh0, Nat.le_refl _, Nat.ne_of_gt E.lt, q6, by rw [List.map_map]; exact v2⟩, hl, hc, hs⟩
end StrChars.Road
namespace StrChars
open Jvm Sem ClassFile Op Lib Jvm.Stand Jvm.Free.XT Jvm.Free.ALB Jvm.Free.JM Jvm.Free
open Jvm.Lib.Cold (StaticIs)
def hi8 (x : Int32) : Int32 := lo8 (x >>> ((8 : Int32) &&& 31))
/-- what StringUTF16.getChar makes of two bytes -/
def pairCh (u v : Int32) : Int32 := (((u &&& 255) <<< ((0 : Int32) &&& 31)) ||| ((v &&& 255) <<< ((8 : Int32) &&& 31))).toUInt32.toUInt16.toUInt32.toInt32
theorem shr0 (c : Int32) : c >>> ((0 : Int32) &&& 31) = c := by
  have e : ((0 : Int32) &&& 31) = 0 := by decide
  rw [e]
  apply Int32.toBitVec_inj.mp
  rw [Int32.toBitVec_shiftRight]
  have e1 : ((0 : Int32).toBitVec.smod 32) = 0#32 := by decide
  rw [e1, BitVec.sshiftRight_eq']
  exact BitVec.sshiftRight_zero
theorem lo8_and (x : Int32) : (lo8 x &&& 255).toBitVec.toNat = x.toBitVec.toNat % 256 := by
  have h : (lo8 x).toBitVec = (x.toBitVec.signExtend 8).signExtend 32 := by rw [lo8, Int8.toBitVec_toInt32, Int32.toBitVec_toInt8]
  rw [Int32.toBitVec_and, BitVec.toNat_and, h]
  have e : ((x.toBitVec.signExtend 8).signExtend 32).toNat % 256 = x.toBitVec.toNat % 256 := by
    rw [BitVec.toNat_signExtend]
    have hlt := x.toBitVec.isLt
    simp only [BitVec.toNat_setWidth, BitVec.toNat_signExtend]
    split <;> split <;> omega
  rw [← e]
  exact Nat.and_two_pow_sub_one_eq_mod _ 8
theorem pair_says {c : Int32} (h0 : ¬ c < 0) (h1 : ¬ 65535 < c) : pairCh (lo8 c) (hi8 c) = c := by
  rw [Int32.lt_iff_toInt_lt] at h0 h1
  have e0 : (0 : Int32).toInt = 0 := rfl
  have e1 : (65535 : Int32).toInt = 65535 := rfl
  have hc : c.toInt = c.toBitVec.toNat := by
    have := c.toBitVec.isLt
    have e : c.toInt = c.toBitVec.toInt := rfl
    rw [e] at h0 h1
    rw [e]
    rw [BitVec.toInt_eq_toNat_cond] at h0 h1 ⊢
    split at h0 <;> split <;> omega
  have hn : c.toBitVec.toNat < 65536 := by omega
  have a1 := lo8_and c
  have a2 : (hi8 c &&& 255).toBitVec.toNat = c.toBitVec.toNat / 256 := by
    rw [hi8, lo8_and]
    have e : ((8 : Int32) &&& 31) = 8 := by decide
    rw [e, Int32.toBitVec_shiftRight]
    have e2 : ((8 : Int32).toBitVec.smod 32) = 8#32 := by decide
    rw [e2, BitVec.sshiftRight_eq', BitVec.toNat_sshiftRight_of_msb_false (by rw [BitVec.msb_eq_false_iff_two_mul_lt]; omega)]
    show c.toBitVec.toNat >>> 8 % 256 = _
    rw [Nat.shiftRight_eq_div_pow]
    omega
  unfold pairCh
  apply Int32.toBitVec_inj.mp
  apply BitVec.eq_of_toNat_eq
  have f0 : ((0 : Int32) &&& 31) = 0 := by decide
  have f8 : ((8 : Int32) &&& 31) = 8 := by decide
  rw [f0, f8]
  have g : (((lo8 c &&& 255) <<< (0 : Int32)) ||| ((hi8 c &&& 255) <<< (8 : Int32))).toBitVec.toNat = c.toBitVec.toNat := by
    rw [Int32.toBitVec_or, Int32.toBitVec_shiftLeft, Int32.toBitVec_shiftLeft]
    have s0 : ((0 : Int32).toBitVec.smod 32) = 0#32 := by decide
    have s8 : ((8 : Int32).toBitVec.smod 32) = 8#32 := by decide
    rw [s0, s8, BitVec.toNat_or]
    simp only [BitVec.shiftLeft_eq', BitVec.toNat_shiftLeft, a1, a2]
    show (c.toBitVec.toNat % 256) <<< 0 % 2 ^ 32 ||| (c.toBitVec.toNat / 256) <<< 8 % 2 ^ 32 = _
    rw [Nat.shiftLeft_zero, Nat.mod_eq_of_lt (show c.toBitVec.toNat % 256 < 2 ^ 32 by omega), Nat.mod_eq_of_lt (show (c.toBitVec.toNat / 256) <<< 8 < 2 ^ 32 by rw [Nat.shiftLeft_eq]; omega), Nat.or_comm, ← Nat.shiftLeft_add_eq_or_of_lt (by omega), Nat.shiftLeft_eq]
    omega
  show BitVec.toNat (((((lo8 c &&& 255) <<< (0 : Int32)) ||| ((hi8 c &&& 255) <<< (8 : Int32))).toBitVec.setWidth 16).setWidth 32) = _
  rw [BitVec.toNat_setWidth, BitVec.toNat_setWidth, g]
  omega
end StrChars
namespace StrChars
open Jvm Sem ClassFile Op Lib Jvm.Stand Jvm.Free.XT Jvm.Free.ALB Jvm.Free.JM Jvm.Free
open Jvm.Lib.Cold (StaticIs)
theorem shr1 {n : Nat} (h : 2 * n < 2 ^ 31) : Int32.ofNat (2 * n) >>> ((1 : Int32) &&& 31) = Int32.ofNat n := by
  have e : ((1 : Int32) &&& 31) = 1 := by decide
  rw [e]
  apply Int32.toBitVec_inj.mp
  rw [Int32.toBitVec_shiftRight]
  have e1 : ((1 : Int32).toBitVec.smod 32) = 1#32 := by decide
  have hm : (BitVec.ofNat 32 (2 * n)).toNat = 2 * n := by rw [BitVec.toNat_ofNat, Nat.mod_eq_of_lt (by omega)]
  rw [e1, BitVec.sshiftRight_eq']
  apply BitVec.eq_of_toNat_eq
  show ((BitVec.ofNat 32 (2 * n)).sshiftRight 1).toNat = (BitVec.ofNat 32 n).toNat
  rw [BitVec.toNat_sshiftRight_of_msb_false (by rw [BitVec.msb_eq_false_iff_two_mul_lt, hm]; omega), hm, BitVec.toNat_ofNat, Nat.shiftRight_eq_div_pow]
  omega
/-- charAt's cast of a byte read back -/
def chr8 (u : Int32) : Int32 := (u &&& 255).toUInt32.toUInt16.toUInt32.toInt32
theorem chr8_lo8 {c : Int32} (h0 : ¬ c < 0) (h1 : ¬ 255 < c) : chr8 (lo8 c) = c := by
  have t : ∀ k : Fin 256, (Int32.ofNat k.val).toUInt32.toUInt16.toUInt32.toInt32 = Int32.ofNat k.val := by decide +kernel
  unfold chr8
  rw [lo8_mask h0 h1]
  rw [Int32.lt_iff_toInt_lt] at h0 h1
  have e0 : (0 : Int32).toInt = 0 := rfl
  have e1 : (255 : Int32).toInt = 255 := rfl
  obtain ⟨k, hk⟩ : ∃ k : Nat, c.toInt = k := ⟨c.toInt.toNat, by omega⟩
  have hx : c = Int32.ofNat k := Int32.toInt_inj.mp (by rw [hk, Int32.toInt_ofNat_small (by omega)])
  rw [hx]
  exact t ⟨k, by omega⟩
/-- the array's cell V codes the n chars f 0 .. f (n - 1) by the coder cd, as the JDK does: coder 1 just where some char is above 255 -/
def Cod (cd : Int32) (n : Nat) (f : Nat → Int32) (V : Cell) : Prop := (cd = 0 ∧ V.slots.size = n ∧ ∀ j, j < n → V.slots[j]? = some (.int (lo8 (f j))) ∧ ¬ 255 < f j) ∨ (cd = 1 ∧ V.slots.size = 2 * n ∧ (∀ j, j < n → V.slots[2 * j]? = some (.int (lo8 (f j))) ∧ V.slots[2 * j + 1]? = some (.int (hi8 (f j)))) ∧ ∃ j, j < n ∧ 255 < f j)
theorem Cod.cd {cd : Int32} {n : Nat} {f : Nat → Int32} {V : Cell} (h : Cod cd n f V) : cd = 0 ∨ cd = 1 := h.imp (fun q => q.1) fun q => q.1
theorem Cod.len {cd : Int32} {n : Nat} {f : Nat → Int32} {V : Cell} (h : Cod cd n f V) (hs : V.slots.size < 2 ^ 31) : Int32.ofNat V.slots.size >>> (cd &&& 31) = Int32.ofNat n := by
  rcases h with ⟨rfl, h, -⟩ | ⟨rfl, h, -⟩
  · rw [shr0, h]
  · rw [h, shr1 (by omega)]
/-- **x is a String of the n chars f 0 .. f (n - 1)**, Latin-1 or UTF-16; its array at t has the cell V -/
def Txt (x t : Addr) (V : Cell) (cd : Int32) (n : Nat) (f : Nat → Int32) (U : State) : Prop := Exact "java/lang/String" x U ∧ Has x "java/lang/String" "value" "[B" (.ref t) U ∧ Has x "java/lang/String" "coder" "B" (.int cd) U ∧ XT.Arr .byte t V U ∧ Cod cd n f V ∧ ∀ j, j < n → ¬ f j < 0 ∧ ¬ 65535 < f j
theorem Txt.mv {x t : Addr} {V : Cell} {cd : Int32} {n : Nat} {f : Nat → Int32} {U U' : State} (h : Txt x t V cd n f U) (hal : U.vm.Alike U'.vm) (hh : U'.heap = U.heap) : Txt x t V cd n f U' := ⟨h.1.mv hal hh, h.2.1.mv hal hh, h.2.2.1.mv hal hh, h.2.2.2.1.mv hal hh, h.2.2.2.2⟩
namespace Cdr
def yN : MethodName := ⟨"java/lang/String", "coder", "()B"⟩
abbrev yB : ByteArray := jdk_42_method_152_code
theorem d0 : decode yB 0 = .ok (.getstatic 38, 3) := by decide +kernel
theorem d3 : decode yB 3 = .ok (.ifCond (.eq) 10, 3) := by decide +kernel
theorem d6 : decode yB 6 = .ok (.aload_n 0, 1) := by decide +kernel
theorem d7 : decode yB 7 = .ok (.getfield 15, 3) := by decide +kernel
theorem d10 : decode yB 10 = .ok (.goto 4, 3) := by decide +kernel
theorem d14 : decode yB 14 = .ok (.ireturn, 1) := by decide +kernel
def site : List Cond := [.fieldLink "java/lang/String" 38 "java/lang/String" "COMPACT_STRINGS" "Z", .fieldLink "java/lang/String" 15 "java/lang/String" "coder" "B"]
def tab : Cond := tabOf yN yB 1 (some .byte) site
def P (x : Addr) (cd z : Int32) (args : Array Value) (s : State) : Prop := args = #[.ref x] ∧ Has x "java/lang/String" "coder" "B" (.int cd) s ∧ (cd = 0 ∨ cd = 1) ∧ StaticIs s "java/lang/String" "COMPACT_STRINGS" "Z" (.int z) ∧ ¬ z = 0
def E (cd : Int32) (r : Option Value) (s u : State) : Prop := XT.PureE (some (.int cd)) r s u
theorem law (l : Launch) (x : Addr) (cd z : Int32) : Law l yN 1 0 0 0 yB 1 (some .byte) site (P x cd z) (E cd) [] 0 0 := by
  refine Law.of_walk (plainFor_of_name (by decide +kernel)) (by decide +kernel) (by decide +kernel) (by decide) (fun _ _ h => by rw [h.1]; rfl) (fun _ U U' hal hh h => ⟨h.1, h.2.1.mv hal hh, h.2.2.1, h.2.2.2.1.there hal hh, h.2.2.2.2⟩) (fun r U U' V V' h1 hal h2 h => XT.PureE.mv r U U' V V' h1 hal h2 h) ?_
  intro p e s m args below meth c s₁ X0 hexec hbytes hml hret hlk hnm hown hh0 W hP
  obtain ⟨rfl, hx, hc, s1, hz⟩ := hP
  have c1 : Steps p.tables e below (s₁.setTop (entryFrame m #[.ref x] 1)) (s₁.setTop (mkF m 0 #[.val (.ref x)] [])) := entry rfl
  obtain ⟨T2, X2, q2, st2⟩ := X0.sget hexec hown (wk W (.fieldLink "java/lang/String" 38 "java/lang/String" "COMPACT_STRINGS" "Z")) s1 (fun _ _ h => by rw [hh0]; exact h) (g := (mkF m 0 #[.val (.ref x)] [])) rfl (hb hbytes d0)
  have hh2 := q2.trans hh0
  have c3 : Steps p.tables e below (s₁.setTop (entryFrame m #[.ref x] 1)) (T2.setTop (mkF m 7 #[.val (.ref x)] [.ref x])) := (c1.trans (st2 _ (Steps.refl _))).trans (by
    refine XS.ifNo X2.here hexec rfl (hb hbytes d3) rfl (i0_eq_f hz) ?_
    refine XS.aloadN X2.here hexec rfl (hb hbytes d6) rfl rfl ?_
    exact Steps.refl _)
  obtain ⟨T4, X4, q4, st4⟩ := X2.hget hexec hown (wk W (.fieldLink "java/lang/String" 15 "java/lang/String" "coder" "B")) (hx.mv X2.warmed.alike hh2) (g := (mkF m 7 #[.val (.ref x)] [.ref x])) rfl (rest := []) rfl (hb hbytes d7)
  have c5 : Steps p.tables e below (s₁.setTop (entryFrame m #[.ref x] 1)) (T4.setTop (mkF m 14 #[.val (.ref x)] [.int cd])) := (c3.trans (st4 _ (Steps.refl _))).trans (by
    refine XS.goto X4.here hexec rfl (pc0 := 10) rfl (hb hbytes d10) (by decide) rfl ?_
    exact Steps.refl _)
  exact ⟨T4, some (.int cd), _, _, _, X4, rfl, rfl, rfl, (fun h => by cases h), ⟨rfl, q4.trans hh2⟩, fun fs hl => c5.trans (X4.ireturnOut hexec hret (by rcases hc with rfl | rfl <;> rfl) (Or.inr (Or.inr (Or.inl rfl))) (hb hbytes d14) hl)⟩
end Cdr
namespace Len
def yN : MethodName := ⟨"java/lang/String", "length", "()I"⟩
abbrev yB : ByteArray := jdk_42_method_54_code
theorem d0 : decode yB 0 = .ok (.aload_n 0, 1) := by decide +kernel
theorem d1 : decode yB 1 = .ok (.getfield 9, 3) := by decide +kernel
theorem d4 : decode yB 4 = .ok (.arraylength, 1) := by decide +kernel
theorem d5 : decode yB 5 = .ok (.aload_n 0, 1) := by decide +kernel
theorem d6 : decode yB 6 = .ok (.invokevirtual 335, 3) := by decide +kernel
theorem d9 : decode yB 9 = .ok (.ishr, 1) := by decide +kernel
theorem d10 : decode yB 10 = .ok (.ireturn, 1) := by decide +kernel
def site : List Cond := [.fieldLink "java/lang/String" 9 "java/lang/String" "value" "[B", Cdr.tab] ++ virtW "java/lang/String" 335 "java/lang/String" Cdr.yN Cdr.yN
def tab : Cond := tabOf yN yB 1 (some .int) site
def P (x t : Addr) (V : Cell) (cd : Int32) (n : Nat) (f : Nat → Int32) (z : Int32) (args : Array Value) (s : State) : Prop := args = #[.ref x] ∧ Txt x t V cd n f s ∧ StaticIs s "java/lang/String" "COMPACT_STRINGS" "Z" (.int z) ∧ ¬ z = 0
def E (n : Nat) (r : Option Value) (s u : State) : Prop := XT.PureE (some (.int (Int32.ofNat n))) r s u
/-- length() of a String of n chars, in either coding -/
theorem law (l : Launch) (x t : Addr) (V : Cell) (cd : Int32) (n : Nat) (f : Nat → Int32) (z : Int32) : Law l yN 1 0 1 13 yB 1 (some .int) site (P x t V cd n f z) (E n) [] 0 0 := by
  refine Law.of_walk (plainFor_of_name (by decide +kernel)) (by decide +kernel) (by decide +kernel) (by decide) (fun _ _ h => by rw [h.1]; rfl) (fun _ U U' hal hh h => ⟨h.1, h.2.1.mv hal hh, h.2.2.1.there hal hh, h.2.2.2⟩) (fun r U U' V V' h1 hal h2 h => XT.PureE.mv r U U' V V' h1 hal h2 h) ?_
  intro p e s m args below meth c s₁ X0 hexec hbytes hml hret hlk hnm hown hh0 W hP
  obtain ⟨rfl, hx, s1, hz⟩ := hP
  have v31 := hx.2.2.2.1.2.2.2
  have c1 : Steps p.tables e below (s₁.setTop (entryFrame m #[.ref x] 1)) (s₁.setTop (mkF m 1 #[.val (.ref x)] [.ref x])) := Steps.trans (entry rfl) (by
    show Steps p.tables e below (s₁.setTop (mkF m 0 #[.val (.ref x)] [])) _
    refine XS.aloadN X0.here hexec rfl (hb hbytes d0) rfl rfl ?_
    exact Steps.refl _)
  obtain ⟨T2, X2, q2, st2⟩ := X0.hget hexec hown (wk W (.fieldLink "java/lang/String" 9 "java/lang/String" "value" "[B")) (hx.mv X0.warmed.alike hh0).2.1 (g := (mkF m 1 #[.val (.ref x)] [.ref x])) rfl (rest := []) rfl (hb hbytes d1)
  have hh2 := q2.trans hh0
  have hx2 := hx.mv X2.warmed.alike hh2
  have c3 : Steps p.tables e below (s₁.setTop (entryFrame m #[.ref x] 1)) (T2.setTop (mkF m 6 #[.val (.ref x)] [.ref x, .int (Int32.ofNat V.slots.size)])) := (c1.trans (st2 _ (Steps.refl _))).trans (by
    refine X2.alen hexec hx2.2.2.2.1 rfl rfl (hb hbytes d4) ?_
    refine XS.aloadN X2.here hexec rfl (hb hbytes d5) rfl rfl ?_
    exact Steps.refl _)
  obtain ⟨v4, T4, X4, E4, g4⟩ := X2.callV hexec (Cdr.law l x cd z) hown (wks W (virtW "java/lang/String" 335 "java/lang/String" Cdr.yN Cdr.yN)) rfl (by decide) (wk W Cdr.tab) (W := 1) (Nat.le_of_ble_eq_true rfl) (Nat.le_of_ble_eq_true rfl) (Nat.le_refl _) (Nat.le_refl _) (hx2.1.fc X2.warmed.alike) hx2.1.is (g := (mkF m 6 #[.val (.ref x)] [.ref x, .int (Int32.ofNat V.slots.size)])) rfl (by rw [hml]; rfl) c3 (argsL := []) (rest := [.int (Int32.ofNat V.slots.size)]) rfl rfl (by show 2 * 0 + (1 + 0) ≤ _; decide) (hb hbytes d6) (⟨rfl, hx2.2.2.1, hx.2.2.2.2.1.cd, s1.there X2.warmed.alike hh2, hz⟩)
  obtain ⟨rfl, q4⟩ := E4
  have c5 : Steps p.tables e below (s₁.setTop (entryFrame m #[.ref x] 1)) (T4.setTop (mkF m 10 #[.val (.ref x)] [.int (Int32.ofNat V.slots.size >>> (cd &&& 31))])) := Steps.trans g4 (by
    refine ishr X4.here hexec rfl (hb hbytes d9) rfl ?_
    exact Steps.refl _)
  rw [hx.2.2.2.2.1.len v31] at c5
  exact ⟨T4, some (.int (Int32.ofNat n)), _, _, _, X4, rfl, rfl, rfl, (fun h => by cases h), ⟨rfl, q4.trans hh2⟩, fun fs hl => c5.trans (X4.ireturnOut hexec hret rfl (Or.inl rfl) (hb hbytes d10) hl)⟩
theorem pays {l : Launch} {R : Room} {p : Program} {e : Env} {below : List Frame} {s : State} {sargs : Array Value} {len W : Nat} (x t : Addr) (V : Cell) (cd : Int32) (n : Nat) (f : Nat → Int32) (z : Int32) (htab : tab.before sargs s = true) (hfr : 2 ≤ R.frames) (hlo : W + 25 ≤ R.locals) :
    Back l R p e below s sargs yN len W (fun A₁ a₁ => A₁.cells + 0 ≤ R.cells ∧ A₁.slots + 0 ≤ R.slots ∧ P x t V cd n f z a₁ A₁.U) (fun A₁ _ v₁ B₁ => E n v₁ A₁.U B₁.U ∧ B₁.locs = A₁.locs ++ [] ∧ B₁.cells = A₁.cells + 0 ∧ B₁.slots = A₁.slots + 0) :=
  (law l x t V cd n f z).pays htab hfr (by omega)
end Len
end StrChars
namespace StrChars.Road
open Jvm Sem ClassFile Op Lib Jvm.Stand Jvm.Free Jvm.Free.XT
open Jvm.Lib.Cold (StaticIs)
theorem consq {a : Array Value} {s : State} {c : Jvm.Cond} {L : List Jvm.Cond} (h0 : c.before a s = true) (h : ∀ w ∈ L, w.before a s = true) : ∀ w ∈ c :: L, w.before a s = true := fun w hw => (List.mem_cons.mp hw).elim (fun e => e ▸ h0) (h w)
/-- the words of String.length(), either coding -/
abbrev wordsLen : List Jvm.Cond := [.code Len.yN Len.yB 1 (some .int), .initialized ST, .fieldLink ST 9 ST "value" "[B", .fieldLink ST 38 ST "COMPACT_STRINGS" "Z", .fieldLink ST 15 ST "coder" "B", .code Cdr.yN Cdr.yB 1 (some .byte), .methodLink ST 335 Cdr.yN, .declares Cdr.yN, .selects ST Cdr.yN Cdr.yN, .instanceMethod Cdr.yN]
theorem tabLen_of {a : Array Value} {s : State} (h : ∀ w ∈ wordsLen, w.before a s = true) : Len.tab.before a s = true := by
  have hc : Cdr.tab.before a s = true := unparts (wk h (.code Cdr.yN Cdr.yB 1 (some .byte))) (wks h (.initialized Cdr.yN.cls :: Cdr.site))
  have q := consq hc h
  exact unparts (wk q (.code Len.yN Len.yB 1 (some .int))) (wks q (.initialized Len.yN.cls :: Len.site))
theorem movedLen {Z s : State} {a0 args : Array Value} (hZ : Z.Warmed39 s.vm) (hw : ∀ d ∈ wordsLen, d.before a0 Z = true) : ∀ d ∈ wordsLen, d.before args s = true := fun d hd => by
  have q := hw d hd
  have t : ∀ d ∈ wordsLen, d = .arrayClass .byte ∨ (d.onTables && d.keepsFace) = true := by decide +kernel
  rcases t d hd with rfl | t
  · exact RoadKit.mvA hZ q
  · exact RoadKit.mv hZ q t
/-- the bytes of the chars cs, low before high -/
def wideBytes : List Int32 → List Value
  | [] => []
  | c :: cs => .int (lo8 c) :: .int (hi8 c) :: wideBytes cs
theorem wide_lo (d : Value) : ∀ (cs : List Int32) (j : Nat), j < cs.length → (wideBytes cs).getD (2 * j) d = .int (lo8 (cs.getD j 0))
  | [], j, h => absurd h (Nat.not_lt_zero j)
  | c :: cs, 0, _ => rfl
  | c :: cs, j + 1, h => by
    have q := wide_lo d cs j (by simpa using h)
    rw [show 2 * (j + 1) = 2 * j + 1 + 1 from by omega]
    simpa [wideBytes] using q
theorem wide_hi (d : Value) : ∀ (cs : List Int32) (j : Nat), j < cs.length → (wideBytes cs).getD (2 * j + 1) d = .int (hi8 (cs.getD j 0))
  | [], j, h => absurd h (Nat.not_lt_zero j)
  | c :: cs, 0, _ => rfl
  | c :: cs, j + 1, h => by
    have q := wide_hi d cs j (by simpa using h)
    rw [show 2 * (j + 1) + 1 = 2 * j + 1 + 1 + 1 from by omega]
    simpa [wideBytes] using q
theorem low_at (d : Value) (cs : List Int32) (j : Nat) (h : j < cs.length) : (cs.map fun c => Value.int (lo8 c)).getD j d = .int (lo8 (cs.getD j 0)) := by
  simp [List.getD_eq_getElem?_getD, h]
/-- an array of N2 bytes vs codes the chars cs by the coder cd -/
def CodA (cs : List Int32) (cd N2 : Int32) (vs : List Value) : Prop := (cd = 0 ∧ N2 = Int32.ofNat cs.length ∧ vs = (cs.map fun c => Value.int (lo8 c)) ∧ ∀ c ∈ cs, ¬ 255 < c) ∨ (cd = 1 ∧ N2 = Int32.ofNat (2 * cs.length) ∧ vs = wideBytes cs ∧ ∃ c ∈ cs, 255 < c)
theorem CodA.cod {cs : List Int32} {cd N2 : Int32} {vs : List Value} {V : Cell} (h : CodA cs cd N2 vs) (hn : 2 * cs.length < 2 ^ 31) (hs : V.slots.size = N2.toNatClampNeg) (hv : RoadKit.Has V vs (.int 0)) : Cod cd cs.length (fun j => cs.getD j 0) V := by
  rcases h with ⟨rfl, rfl, rfl, h⟩ | ⟨rfl, rfl, rfl, c, hc, hw⟩
  · rw [n32 (by omega)] at hs
    exact Or.inl ⟨rfl, hs, fun j hj => ⟨by rw [hv j (by omega), low_at _ _ _ hj], by
      have e : cs.getD j 0 = cs[j] := by simp [List.getD_eq_getElem?_getD, hj]
      show ¬ 255 < cs.getD j 0
      rw [e]; exact h _ (List.getElem_mem _)⟩⟩
  · rw [n32 (by omega)] at hs
    obtain ⟨j, hj, rfl⟩ := List.getElem_of_mem hc
    exact Or.inr ⟨rfl, hs, fun j hj => ⟨by rw [hv _ (by omega), wide_lo _ _ _ hj], by rw [hv _ (by omega), wide_hi _ _ _ hj]⟩, j, hj, by
      have e : cs.getD j 0 = cs[j] := by simp [List.getD_eq_getElem?_getD, hj]
      show 255 < cs.getD j 0
      rw [e]; exact hw⟩
/-- an object of exactly java/lang/String, its two fields found: as the laws ask it -/
theorem strObj {Z U : State} {a0 : Array Value} {kI : Nat} (wi : (Jvm.Cond.instantiable ST kI).before a0 Z = true) (al : Z.vm.Alike U.vm) {x : Addr} {v0 c0 : Value} (E : RoadKit.Exa Z U.heap x ST) (V : RoadKit.Fld Z U.heap x ST "value" "[B" v0) (C : RoadKit.Fld Z U.heap x ST "coder" "B" c0) :
    ∃ (D : Cell) (fV fC : Field), Blank ST x D U ∧ Found ST "value" "[B" fV U ∧ Found ST "coder" "B" fC U ∧ D.slots[fV.slot]? = some v0 ∧ D.slots[fC.slot]? = some c0 ∧ RoadKit.slotOf Z ST "value" "[B" = fV.slot ∧ RoadKit.slotOf Z ST "coder" "B" = fC.slot := by
  obtain ⟨D, cfV, kV, iV, fV, hD, gV, stV, knV, obV, asV, slV⟩ := V
  obtain ⟨D', cfC, kC, iC, fC, hD', gC, stC, -, -, asC, slC⟩ := C
  cases hD.symm.trans hD'
  obtain ⟨D2, kD, e1, e2, e3, e4, e5⟩ := E
  cases hD.symm.trans e1
  obtain ⟨c2, k2, i1, i2, i3, -⟩ := Cond.instantiable_spec wi
  cases e2.symm.trans i1
  cases e3.symm.trans i2
  obtain ⟨kU, u1, u2⟩ := al.2.2 _ _ e3
  exact ⟨D, fV, fC, ⟨hD, ⟨knV, fun q hq => by rw [hq] at obV; cases obV⟩, by rw [al.findClass]; exact e2, kU, u1, by rw [u2]; exact i3, by rw [u2]; exact e5 i3⟩, ⟨SBG.found_only al ⟨cfV, kV, iV, gV⟩, stV⟩, ⟨SBG.found_only al ⟨cfC, kC, iC, gC⟩, stC⟩, slV, slC, by simp [RoadKit.slotOf, gV], by simp [RoadKit.slotOf, gC]⟩
theorem sta_is {Z U : State} (al : Z.vm.Alike U.vm) {C n d : String} {v : Value} (S : RoadKit.Sta Z U.heap C n d v) : StaticIs U C n d v := by
  obtain ⟨cfS, iS, kS, fS, st, cS, t1, t2, t3, t4, t5, t6, t7⟩ := S
  exact StaticIs.there (s := { Z with heap := U.heap }) ⟨cfS, iS, kS, fS, st, cS, t1, t2, t3, t4, t5, (fun q => by rw [q] at t6; cases t6), t7⟩ al rfl
/-- **length() OF SUCH A STRING** -/
theorem lenW {p : Program} {l : Launch} {e : Env} {R : Room} {s : State} {args : Array Value} {below : List Frame} {len W : Nat} {Z : State} {a0 : Array Value} {h : Heap} (hZ : Z.Warmed39 s.vm) (hw : ∀ d ∈ wordsLen, d.before a0 Z = true) {kI : Nat} (wi : (Jvm.Cond.instantiable ST kI).before a0 Z = true)
    {x t : Addr} {kb : ClassId} {cs : List Int32} {cd N2 z : Int32} {vs : List Value} (E : RoadKit.Exa Z h x ST) (V : RoadKit.Fld Z h x ST "value" "[B" (.ref t)) (C : RoadKit.Fld Z h x ST "coder" "B" (.int cd)) (K : RoadKit.Arv Z h t kb .byte N2 vs (.int 0)) (hc : CodA cs cd N2 vs) (hb : ∀ c ∈ cs, ¬ c < 0 ∧ ¬ (65535 : Int32) < c)
    (S : RoadKit.Sta Z h ST "COMPACT_STRINGS" "Z" (.int z)) (hz : ¬ z = 0) (l2 : cs.length ≤ 4000) (hfr : 2 ≤ R.frames) (hlo : W + 25 ≤ R.locals) :
    Back l R p e below s args (⟨"java/lang/String", "length", "()I"⟩ : MethodName) len W (fun P a => a = #[.ref x] ∧ P.U.heap = h ∧ P.cells + 0 ≤ R.cells ∧ P.slots + 0 ≤ R.slots)
      (fun P _ v B => ∃ L, (v = some (.int (Int32.ofNat cs.length)) ∧ L = [] ∧ B.U.heap = h) ∧ B.locs = P.locs ++ L ∧ B.cells = P.cells + 0 ∧ B.slots = P.slots + 0) := by
  obtain ⟨A, K1, K2, K3, K4, K5, K6⟩ := K
  have hcod := hc.cod (by omega) K3 K5
  intro m meth c P g ig mk a X hg hsize hdg hW hn hp'
  obtain ⟨rfl, rfl, r1, r2⟩ := hp'
  have al : Z.vm.Alike P.U.vm := hZ.alike.trans X.warmed.alike
  obtain ⟨D, fV, fC, hB, F1, F2, g1, g2, -, -⟩ := strObj wi al E V C
  have hx : Txt x t A cd cs.length (fun j => cs.getD j 0) P.U := ⟨⟨_, hB.2.2.1, D, hB.1, rfl, by cases q : D.vm <;> first | rfl | exact absurd q (hB.2.1.2 _)⟩, Has.of hB F1 g1, Has.of hB F2 g2, ⟨K1.1, State.isArrayOf_alike al K1.2.1, K1.2.2, by rcases hcod with ⟨-, q, -⟩ | ⟨-, q, -⟩ <;> omega⟩, hcod, fun j hj => by
    have e : cs.getD j 0 = cs[j] := by simp [List.getD_eq_getElem?_getD, hj]
    show ¬ cs.getD j 0 < 0 ∧ ¬ 65535 < cs.getD j 0
    rw [e]; exact hb _ (List.getElem_mem _)⟩
  obtain ⟨v, B, X', ⟨⟨hv, hh⟩, hl, hk, hs⟩, st⟩ := Len.pays x t A cd cs.length (fun j => cs.getD j 0) z (tabLen_of (movedLen hZ hw)) hfr hlo m meth c P g ig mk _ X hg hsize hdg hW hn ⟨r1, r2, rfl, hx, sta_is al S, hz⟩
  exact ⟨v, B, X', ⟨[], ⟨hv, rfl, hh⟩, hl, hk, hs⟩, st⟩
end StrChars.Road
namespace StrChars.Road
open Jvm Sem ClassFile Op Lib Jvm.Stand Jvm.Free Jvm.Free.XT
open Jvm.Lib.Cold (StaticIs)
/-- what backV says of its String, as the contracts of this text ask it: cs's low bytes, coder 0 -/
theorem codOf {cs : List Int32} {n : Nat} (hn : cs.length = n) (hb : ∀ c ∈ cs, ¬ 255 < c) : CodA cs 0 (Int32.ofNat n) ((cs.map lo8).map Value.int) := Or.inl ⟨rfl, by rw [hn], by simp [List.map_map, Function.comp_def], hb⟩
end StrChars.Road
end Jvm.Pilot.@@N@@
namespace Jvm.Pilot.@@N@@
open Jvm Jvm.ClassFile Sem Op Lib Jvm.Free Jvm.Stand Jvm.LawKit Jvm.RoadKit Bundle Jvm.Pilot.@@N@@.Jvm.D
set_option maxRecDepth 65536
set_option maxHeartbeats 40000000
section Kit
variable {p : Program} {l : Launch} {e : Env} {R : Room} {s : State} {m : MethodId} {args : Array Value} {below : List Frame} {meth : Method} {c : Code} {Z : State} {a0 : Array Value} {EL : List (String × Nat)} {own : String} {sf : List Addr} {T : State} {h h' h0 : Heap} {k n k' n' rc rs pc : Nat} {Ls : Array Slot} {stk rest : List Value} {Q : Option Value → Heap → Prop}
/-- where a walk stands: the library's Stand over the start with the tables at hand, and what rides along -/
def Wk (p : Program) (l : Launch) (e : Env) (R : Room) (s : State) (m : MethodId) (args : Array Value) (below : List Frame) (meth : Method) (c : Code) (Z : State) (a0 : Array Value) (EL : List (String × Nat)) (own : String) (sf : List Addr) (T : State) (h : Heap) (k n : Nat) : Prop :=
  p.tables.exec = Jvm.exec ∧ meth.locks = false ∧ EW Z a0 EL ∧ Ext Z.heap s.heap ∧ ∃ (vm0 : Vm) (k0 : Nat) (L : List Loc), Stand p l e R (s.setVm vm0) m args below meth c T L k n ∧ T.heap = h ∧ s.Since vm0 k0 ∧ k0 ≤ h.size ∧ Z.Warmed39 vm0 ∧ vm0.findClass own = some m.cls ∧ CHr Z EL s.vm s.heap vm0 h ∧ (∀ x ∈ sf, x < h.size ∧ Safe Z EL vm0 h x) ∧ Fr Z.heap.size L
/-- from the state st the invocation ends, with Q of its value and heap -/
def Go (p : Program) (e : Env) (below : List Frame) (s : State) (Z : State) (EL : List (String × Nat)) (rc rs : Nat) (Q : Option Value → Heap → Prop) (st : State) : Prop :=
  ∃ t o, Steps p.tables e below st t ∧ t.status = .running ∧ Ended t below o ∧ ∃ v L, o = .returned v ∧ (Q v t.heap ∧ Fr Z.heap.size L) ∧ CHr Z EL s.vm s.heap t.vm t.heap ∧ ReturnedEndW s o t L rc rs
/-- a method's contract: at these arguments and this heap it ends, with Q of its value and heap -/
def Con (l : Launch) (Z : State) (EL : List (String × Nat)) (sf : List Addr) (y : MethodName) (bytes : ByteArray) (maxL : Nat) (ret : Option FieldType) (ws : List Cond) (rm : Room) (as' : Array Value) (h : Heap) (Q : Option Value → Heap → Prop) : Prop :=
  MetFree l y (head1 (Cond.code y bytes maxL ret :: ws) rm) (fun a U => a = as' ∧ Z.Warmed39 U.vm ∧ U.heap = h ∧ CHv Z EL U.vm h ∧ ∀ x ∈ sf, Safe Z EL U.vm h x) (fun _ _ _ _ _ => True) (fun _ U o U' => ∃ v L, o = .returned v ∧ (Q v U'.heap ∧ Fr Z.heap.size L) ∧ CHr Z EL U.vm U.heap U'.vm U'.heap ∧ ReturnedEndW U o U' L rm.cells rm.slots)
theorem Go.by {st st' : State} (q : ∀ t, Steps p.tables e below st' t → Steps p.tables e below st t) (f : Go p e below s Z EL rc rs Q st') : Go p e below s Z EL rc rs Q st := by
  obtain ⟨t, o, h1, r⟩ := f; exact ⟨t, o, q t h1, r⟩
theorem Go.of {st st' : State} (q : Steps p.tables e below st st') (f : Go p e below s Z EL rc rs Q st') : Go p e below s Z EL rc rs Q st := f.by fun t r => q.trans r
theorem Wk.hx (W : Wk p l e R s m args below meth c Z a0 EL own sf T h k n) : p.tables.exec = Jvm.exec := W.1
theorem Wk.here (W : Wk p l e R s m args below meth c Z a0 EL own sf T h k n) : At T m c below := by obtain ⟨-, -, -, -, vm0, k0, L, X, -⟩ := W; exact X.here
theorem Wk.old (W : Wk p l e R s m args below meth c Z a0 EL own sf T h k n) : Ext Z.heap h := by
  obtain ⟨-, -, -, hE, vm0, k0, L, X, rfl, -, -, -, -, -, -, N⟩ := W
  refine ⟨Nat.le_trans hE.1 X.same.2.1, fun b cl hb => ?_⟩
  obtain ⟨c', h1, h2, -, h4⟩ := X.same.2.2.2.2.2 b cl (hE.2 b cl hb)
  have hlt := (Array.getElem?_eq_some_iff.mp hb).1
  have hsl : c'.slots = cl.slots := Array.ext_getElem? fun i => h4 i fun hm => absurd (N _ hm) (Nat.not_le.mpr hlt)
  have hcc : c' = cl := by rw [h2, hsl]
  rw [← hcc]; exact h1
theorem Wk.mono (W : Wk p l e R s m args below meth c Z a0 EL own sf T h k n) (hk : k ≤ k') (hn : n ≤ n') : Wk p l e R s m args below meth c Z a0 EL own sf T h k' n' := by
  obtain ⟨w1, w2, w3, w4, vm0, k0, L, X, r⟩ := W; exact ⟨w1, w2, w3, w4, vm0, k0, L, X.mono hk hn, r⟩
theorem Wk.less {sf' : List Addr} (W : Wk p l e R s m args below meth c Z a0 EL own sf T h k n) (q : ∀ x ∈ sf', x ∈ sf) : Wk p l e R s m args below meth c Z a0 EL own sf' T h k n := by
  obtain ⟨w1, w2, w3, w4, vm0, k0, L, X, r1, r2, r3, r4, r5, r6, r7, r8⟩ := W; exact ⟨w1, w2, w3, w4, vm0, k0, L, X, r1, r2, r3, r4, r5, r6, fun x hx => r7 x (q x hx), r8⟩
/-- what is safe by its class -/
theorem Wk.safeE {C : String} {x : Addr} (W : Wk p l e R s m args below meth c Z a0 EL own sf T h k n) (E : Exa Z h x C) (h1 : C ≠ "java/lang/String") (h2 : C ≠ "[B") : Wk p l e R s m args below meth c Z a0 EL own (x :: sf) T h k n := by
  obtain ⟨w1, w2, w3, w4, vm0, k0, L, X, r1, r2, r3, r4, r5, r6, r7, r8⟩ := W
  exact ⟨w1, w2, w3, w4, vm0, k0, L, X, r1, r2, r3, r4, r5, r6, fun y hy => by
    rcases List.mem_cons.mp hy with rfl | hy
    · exact ⟨E.lt, Safe.exa r4.alike E h1 h2⟩
    · exact r7 y hy, r8⟩
/-- a contract by its body's walk -/
theorem Con.mk {y : MethodName} {bytes : ByteArray} {maxL : Nat} {ret : Option FieldType} {ws : List Cond} {rm : Room} {as' : Array Value} (hp : plainFor y = true) (hEL : EW Z a0 EL) (hE : Ext Z.heap h) (hsf : ∀ x ∈ sf, x < h.size)
    (body : ∀ (p : Program) (e : Env) (s : State) (m : MethodId) (below : List Frame) (meth : Method) (c : Code) (T : State), c.code = bytes → c.maxLocals = maxL → meth.sig.returnType = ret → meth.name = y.name → Wk p l e rm s m as' below meth c Z a0 EL y.cls sf T h 0 0 → Go p e below s Z EL rm.cells rm.slots Q (T.setTop (entryFrame m as' maxL))) :
    Con l Z EL sf y bytes maxL ret ws rm as' h Q := by
  refine MetFree.of_bodySF hp hisR ?_
  intro p e s m args below meth c s₁ Bd hml0 hP hK
  obtain ⟨rfl, hZ, hh, hC, hS⟩ := hP
  have X0 : Stand p l e rm s m args below meth c s₁ [] 0 0 := Stand.of_body Bd
  have e0 : s₁.heap = h := by rw [← hh, Bd.state]; rfl
  subst hh
  obtain ⟨t, o, h1, h2, h3, h4⟩ := body p e s m below meth c s₁ Bd.bytes hml0 Bd.returns (name_of_methodNamed Bd.named Bd.method).1
    ⟨Bd.exec, Bd.notSynchronized, hEL, hE, s.vm, 0, [], X0, e0, (State.WarmedH.refl s).since 0, Nat.zero_le _, hZ, findClass_of_methodNamed Bd.named, CHr.refl hC, fun x hx => ⟨hsf x hx, hS x hx⟩, Fr.nil _⟩
  exact ⟨t, o, h1, h2, h3, h4⟩
/-! returns -/
theorem Wk.ret {st : State} {v : Option Value} (W : Wk p l e R s m args below meth c Z a0 EL own sf T h k n) (hk : k ≤ rc) (hn : n ≤ rs) (hv : meth.sig.returnType = none → v = none) (q : Q v h)
    (go : ∀ {L : List Loc} {vm0 : Vm}, Stand p l e R (s.setVm vm0) m args below meth c T L k n → ∀ fs : List Frame, (∀ (f : JFrame) (acts : List Action), f.method = m → f.locked = none → f.entered = [] → (doReturn e (T.setTop f) acts v).1 = T.setFrames fs) → Steps p.tables e below st (T.setFrames fs)) : Go p e below s Z EL rc rs Q st := by
  obtain ⟨w1, w2, w3, w4, vm0, k0, L, X, rfl, r2, r3, r4, r5, r6, r7, r8⟩ := W
  obtain ⟨fs, hr, hrun, hended, hW⟩ := (X.mono hk hn).leaveW r2 r3 hv w2
  have hc : CHr Z EL s.vm s.heap T.vm T.heap := r6.trans (CHv.at X r4 w3 r6.1)
  exact ⟨_, _, go X fs hr, hrun, hended, v, L, rfl, ⟨q, r8⟩, hc, hW⟩
theorem Wk.retV (W : Wk p l e R s m args below meth c Z a0 EL own sf T h k n) (hk : k ≤ rc) (hn : n ≤ rs) (hret : meth.sig.returnType = none) (hd : decode c.code pc = .ok (.return_, 1)) (q : Q none h) : Go p e below s Z EL rc rs Q (T.setTop (mkF m pc Ls [])) :=
  W.ret hk hn (fun _ => rfl) q fun X fs hr => X.returnOut W.hx hret hd hr
theorem Wk.retN {t : FieldType} {z z' : Int32} (W : Wk p l e R s m args below meth c Z a0 EL own sf T h k n) (hk : k ≤ rc) (hn : n ≤ rs) (hret : meth.sig.returnType = some t) (ht : t = .boolean ∨ t = .byte ∨ t = .char ∨ t = .short) (hd : decode c.code pc = .ok (.ireturn, 1)) (hz : nar t z = z') (q : Q (some (.int z')) h) : Go p e below s Z EL rc rs Q (T.setTop (mkF m pc Ls (.int z :: rest))) := by
  subst hz
  exact W.ret hk hn (fun h => by rw [hret] at h; cases h) q fun X fs hr => Jvm.RoadKit.retN X W.hx hret ht hd hr
theorem Wk.retI {z : Int32} (W : Wk p l e R s m args below meth c Z a0 EL own sf T h k n) (hk : k ≤ rc) (hn : n ≤ rs) (hret : meth.sig.returnType = some .int) (hd : decode c.code pc = .ok (.ireturn, 1)) (q : Q (some (.int z)) h) : Go p e below s Z EL rc rs Q (T.setTop (mkF m pc Ls (.int z :: rest))) :=
  W.ret hk hn (fun h => by rw [hret] at h; cases h) q fun X fs hr => retOut X W.hx hret rfl (Or.inl ⟨rfl, by simp, z, rfl⟩) hd hr
theorem Wk.retA {t : FieldType} {w : Value} (W : Wk p l e R s m args below meth c Z a0 EL own sf T h k n) (hk : k ≤ rc) (hn : n ≤ rs) (hret : meth.sig.returnType = some t) (ht : t.isReference = true) (hw : w.isRef = true) (hd : decode c.code pc = .ok (.areturn, 1)) (q : Q (some w) h) : Go p e below s Z EL rc rs Q (T.setTop (mkF m pc Ls (w :: rest))) :=
  W.ret hk hn (fun h => by rw [hret] at h; cases h) q fun X fs hr => retOut X W.hx hret (by rcases ref_cases hw with rfl | ⟨z, rfl⟩ <;> cases t <;> first | rfl | cases ht) (Or.inr (Or.inr (Or.inr (Or.inr ⟨rfl, ht, hw⟩)))) hd hr
/-! fields -/
theorem Wk.getf {R0 O nm d host : String} {index : Nat} {a : Addr} {v : Value} (W : Wk p l e R s m args below meth c Z a0 EL own sf T h k n) (w : (Cond.fieldLink own index R0 nm d).before a0 Z = true ∨ (Cond.fieldLinkNest own index R0 nm d host).before a0 Z = true) (via : Via Z R0 O nm d) (F : Fld Z h a O nm d v) (hd : decode c.code pc = .ok (.getfield index, 3))
    (go : ∀ T', Wk p l e R s m args below meth c Z a0 EL own sf T' h k n → Go p e below s Z EL rc rs Q (T'.setTop (mkF m (pc + 3) Ls (v :: rest)))) : Go p e below s Z EL rc rs Q (T.setTop (mkF m pc Ls (.ref a :: rest))) := by
  obtain ⟨w1, w2, w3, w4, vm0, k0, L, X, r1, r2, r3, r4, r5, r⟩ := W
  obtain ⟨T', X', e', st⟩ := getF X w1 r4 r5 w via r1 F (g := mkF m pc Ls (.ref a :: rest)) rfl rfl hd
  exact Go.by st (go T' ⟨w1, w2, w3, w4, vm0, k0, L, X', e', r2, r3, r4, r5, r⟩)
theorem Wk.gets {R0 O nm d host : String} {index : Nat} {v : Value} (W : Wk p l e R s m args below meth c Z a0 EL own sf T h k n) (w : (Cond.fieldLink own index R0 nm d).before a0 Z = true ∨ (Cond.fieldLinkNest own index R0 nm d host).before a0 Z = true) (via : Via Z R0 O nm d) (F : Sta Z h O nm d v) (hd : decode c.code pc = .ok (.getstatic index, 3))
    (go : ∀ T', Wk p l e R s m args below meth c Z a0 EL own sf T' h k n → Go p e below s Z EL rc rs Q (T'.setTop (mkF m (pc + 3) Ls (v :: stk)))) : Go p e below s Z EL rc rs Q (T.setTop (mkF m pc Ls stk)) := by
  obtain ⟨w1, w2, w3, w4, vm0, k0, L, X, r1, r2, r3, r4, r5, r⟩ := W
  obtain ⟨T', X', e', st⟩ := getS2 X w1 r4 r5 w via r1 F (g := mkF m pc Ls stk) rfl hd
  exact Go.by st (go T' ⟨w1, w2, w3, w4, vm0, k0, L, X', e', r2, r3, r4, r5, r⟩)
theorem Wk.wrote {a : Addr} {sl : Nat} {v : Value} {T' : State} {L : List Loc} {vm0 : Vm} (hxm : p.tables.exec = Jvm.exec) (hl : meth.locks = false) (hEW : EW Z a0 EL) (hE : Ext Z.heap s.heap) {k0 : Nat} (X' : Stand p l e R (s.setVm vm0) m args below meth c T' (L ++ [⟨a, sl⟩]) k n) (e' : T'.heap = h') (W' : Wr h h' a sl v) (r2 : s.Since vm0 k0) (r3 : k0 ≤ h.size) (r4 : Z.Warmed39 vm0) (r5 : vm0.findClass own = some m.cls) (r6 : CHr Z EL s.vm s.heap vm0 h) (r7 : ∀ x ∈ sf, x < h.size ∧ Safe Z EL vm0 h x) (r8 : Fr Z.heap.size L) (ha : Z.heap.size ≤ a) (hs : a ∈ sf) :
    Wk p l e R s m args below meth c Z a0 EL own sf T' h' k n := by
  have hsz : h'.size = h.size := W'.size
  exact ⟨hxm, hl, hEW, hE, vm0, k0, _, X', e', r2, by rw [hsz]; exact r3, r4, r5, r6.trans (CHr.wr W' (r7 a hs).2 r6.1), fun x hx => ⟨by rw [hsz]; exact (r7 x hx).1, Safe.wr W' (r7 a hs).2 r6.1 (r7 x hx).2⟩, Fr.snoc X' r8 ha⟩
theorem Wk.putf {R0 O nm d host C : String} {index kk : Nat} {ty : FieldType} {a : Addr} {v old : Value} (W : Wk p l e R s m args below meth c Z a0 EL own sf T h k n) (w : (Cond.fieldLink own index R0 nm d).before a0 Z = true ∨ (Cond.fieldLinkNest own index R0 nm d host).before a0 Z = true) (via : Via Z R0 O nm d) (F : Fld Z h a O nm d old) (E : Exa Z h a C) (Lw : (Cond.lays C O nm d).before a0 Z = true ∨ ((Cond.laysFinal C O nm d).before a0 Z = true ∧ own = O ∧ meth.name = "<init>")) (wi : (Cond.instantiable C kk).before a0 Z = true)
    (hty : parseFieldDescriptor d = some ty) (hn : narrow ty v = v) (hf : fits ty v = true) (ha : Z.heap.size ≤ a) (hs : a ∈ sf) (hd : decode c.code pc = .ok (.putfield index, 3))
    (go : ∀ T' h', Wk p l e R s m args below meth c Z a0 EL own sf T' h' k n → Wr h h' a (RoadKit.slotOf Z O nm d) v → Go p e below s Z EL rc rs Q (T'.setTop (mkF m (pc + 3) Ls rest))) : Go p e below s Z EL rc rs Q (T.setTop (mkF m pc Ls (v :: .ref a :: rest))) := by
  obtain ⟨w1, w2, w3, w4, vm0, k0, L, X, r1, r2, r3, r4, r5, r6, r7, r8⟩ := W
  obtain ⟨T', h', X', e', W', st⟩ := putF X w1 r4 r5 w via r1 F E Lw wi hty hn hf (g := mkF m pc Ls (v :: .ref a :: rest)) rfl rfl hd
  exact Go.by st (go T' h' (Wk.wrote w1 w2 w3 w4 X' e' W' r2 r3 r4 r5 r6 r7 r8 ha hs) W')
theorem Wk.putfn {R0 O nm d C : String} {index kk : Nat} {ty : FieldType} {a : Addr} {v v' old : Value} (W : Wk p l e R s m args below meth c Z a0 EL own sf T h k n) (w : (Cond.fieldLink own index R0 nm d).before a0 Z = true) (via : Via Z R0 O nm d) (F : Fld Z h a O nm d old) (E : Exa Z h a C) (Lw : (Cond.lays C O nm d).before a0 Z = true ∨ ((Cond.laysFinal C O nm d).before a0 Z = true ∧ own = O ∧ meth.name = "<init>")) (wi : (Cond.instantiable C kk).before a0 Z = true)
    (hty : parseFieldDescriptor d = some ty) (hn : narrow ty v = v') (hf : fits ty v' = true) (ha : Z.heap.size ≤ a) (hs : a ∈ sf) (hd : decode c.code pc = .ok (.putfield index, 3))
    (go : ∀ T' h', Wk p l e R s m args below meth c Z a0 EL own sf T' h' k n → Wr h h' a (RoadKit.slotOf Z O nm d) v' → Go p e below s Z EL rc rs Q (T'.setTop (mkF m (pc + 3) Ls rest))) : Go p e below s Z EL rc rs Q (T.setTop (mkF m pc Ls (v :: .ref a :: rest))) := by
  obtain ⟨w1, w2, w3, w4, vm0, k0, L, X, r1, r2, r3, r4, r5, r6, r7, r8⟩ := W
  obtain ⟨T', h', X', e', W', st⟩ := putFN X w1 r4 r5 w via r1 F E Lw wi hty hn hf (g := mkF m pc Ls (v :: .ref a :: rest)) rfl rfl hd
  exact Go.by st (go T' h' (Wk.wrote w1 w2 w3 w4 X' e' W' r2 r3 r4 r5 r6 r7 r8 ha hs) W')
/-! making -/
theorem Wk.grew {x : Addr} {T' : State} {L : List Loc} {vm0 : Vm} {k0 : Nat} (hxm : p.tables.exec = Jvm.exec) (hl : meth.locks = false) (hEW : EW Z a0 EL) (hE : Ext Z.heap s.heap) (X' : Stand p l e R (s.setVm vm0) m args below meth c T' L k' n') (e' : T'.heap = h') (E : Ext h h') (hx : x < h'.size) (hn : h.size ≤ x) (r2 : s.Since vm0 k0) (r3 : k0 ≤ h.size) (r4 : Z.Warmed39 vm0) (r5 : vm0.findClass own = some m.cls) (r6 : CHr Z EL s.vm s.heap vm0 h) (r7 : ∀ x ∈ sf, x < h.size ∧ Safe Z EL vm0 h x) (r8 : Fr Z.heap.size L) :
    Wk p l e R s m args below meth c Z a0 EL own (x :: sf) T' h' k' n' :=
  ⟨hxm, hl, hEW, hE, vm0, k0, L, X', e', r2, Nat.le_trans r3 E.1, r4, r5, r6.trans (CHr.ext E r6.1), fun y hy => by
    rcases List.mem_cons.mp hy with rfl | hy
    · exact ⟨hx, Safe.ext E r6.1 (Safe.new hn)⟩
    · exact ⟨Nat.lt_of_lt_of_le (r7 y hy).1 E.1, Safe.ext E r6.1 (r7 y hy).2⟩, r8⟩
theorem Wk.new {C : String} {index N : Nat} (W : Wk p l e R s m args below meth c Z a0 EL own sf T h k n) (w : (Cond.classLink own index C).before a0 Z = true) (wi : (Cond.instantiable C N).before a0 Z = true) (wz : (Cond.initialized C).before a0 Z = true) (hd : decode c.code pc = .ok (.new index, 3)) (ek : k + 1 = k') (en : n + N = n') (hk : k' ≤ R.cells) (hn : n' ≤ R.slots)
    (go : ∀ T' h' x, Wk p l e R s m args below meth c Z a0 EL own (x :: sf) T' h' k' n' → Ext h h' → h.size = x → Z.heap.size ≤ x → Exa Z h' x C → (∀ {O nm d : String} {ty : FieldType}, Laid Z a0 C O nm d → parseFieldDescriptor d = some ty → Fld Z h' x O nm d (defaultValue ty)) → Go p e below s Z EL rc rs Q (T'.setTop (mkF m (pc + 3) Ls (.ref x :: stk)))) : Go p e below s Z EL rc rs Q (T.setTop (mkF m pc Ls stk)) := by
  have hO := W.old
  obtain ⟨w1, w2, w3, w4, vm0, k0, L, X, r1, r2, r3, r4, r5, r6, r7, r8⟩ := W
  subst ek en
  obtain ⟨T', h', X', e', E, A, D, -, st⟩ := newO X w1 r4 r5 w wi wz r1 (g := mkF m pc Ls stk) rfl hd hk hn
  exact Go.by st (go T' h' _ (Wk.grew w1 w2 w3 w4 X' e' E A.lt (Nat.le_refl _) r2 r3 r4 r5 r6 r7 r8) E rfl hO.1 A D)
theorem Wk.newp {aty : ArrayType} {z : Int32} {cap : Nat} {ad : String} (W : Wk p l e R s m args below meth c Z a0 EL own sf T h k n) (w : (Cond.arrayClass (newarray.typeOf aty)).before a0 Z = true) (hd : decode c.code pc = .ok (.newarray aty, 2)) (hz : ¬ z < 0) (hcap : z.toNatClampNeg ≤ cap) (hb : cap * 8 ≤ 536870912) (ek : k + 1 = k') (en : n + cap = n') (hk : k' ≤ R.cells) (hn : n' ≤ R.slots) (had : "[" ++ (newarray.typeOf aty).toString = ad)
    (go : ∀ T' h' x kA, Wk p l e R s m args below meth c Z a0 EL own (x :: sf) T' h' k' n' → Ext h h' → h.size = x → Z.heap.size ≤ x → Exa Z h' x ad → Arv Z h' x kA (newarray.typeOf aty) z [] (defaultValue (newarray.typeOf aty)) → Go p e below s Z EL rc rs Q (T'.setTop (mkF m (pc + 2) Ls (.ref x :: rest)))) : Go p e below s Z EL rc rs Q (T.setTop (mkF m pc Ls (.int z :: rest))) := by
  have hO := W.old
  obtain ⟨w1, w2, w3, w4, vm0, k0, L, X, r1, r2, r3, r4, r5, r6, r7, r8⟩ := W
  subst ek en
  obtain ⟨T', h', cA, X', e', E, A, D, st⟩ := newPE X w1 r4 w r1 (g := mkF m pc Ls (.int z :: rest)) rfl hd rfl hz hcap hb hk hn had
  exact Go.by st (go T' h' _ cA (Wk.grew w1 w2 w3 w4 X' e' E D.lt (Nat.le_refl _) r2 r3 r4 r5 r6 r7 r8) E rfl hO.1 D (Arv.new A hz))
theorem Wk.newr {C : String} {index : Nat} {z : Int32} {cap : Nat} {ad : String} (W : Wk p l e R s m args below meth c Z a0 EL own sf T h k n) (wl : (Cond.classLink own index C).before a0 Z = true) (w : (Cond.arrayOver (.object C)).before a0 Z = true) (hd : decode c.code pc = .ok (.anewarray index, 3)) (hz : ¬ z < 0) (hcap : z.toNatClampNeg ≤ cap) (hb : cap * 8 ≤ 536870912) (ek : k + 1 = k') (en : n + cap = n') (hk : k' ≤ R.cells) (hn : n' ≤ R.slots) (had : "[" ++ (FieldType.object C).toString = ad)
    (go : ∀ T' h' x kA, Wk p l e R s m args below meth c Z a0 EL own (x :: sf) T' h' k' n' → Ext h h' → h.size = x → Z.heap.size ≤ x → Exa Z h' x ad → Arv Z h' x kA (.object C) z [] .null → Ovr Z kA C → Go p e below s Z EL rc rs Q (T'.setTop (mkF m (pc + 3) Ls (.ref x :: rest)))) : Go p e below s Z EL rc rs Q (T.setTop (mkF m pc Ls (.int z :: rest))) := by
  have hO := W.old
  obtain ⟨w1, w2, w3, w4, vm0, k0, L, X, r1, r2, r3, r4, r5, r6, r7, r8⟩ := W
  subst ek en
  obtain ⟨T', h', cA, X', e', E, A, D, O, st⟩ := newRE X w1 r4 r5 wl w r1 (g := mkF m pc Ls (.int z :: rest)) rfl hd rfl hz hcap hb hk hn had
  exact Go.by st (go T' h' _ cA (Wk.grew w1 w2 w3 w4 X' e' E D.lt (Nat.le_refl _) r2 r3 r4 r5 r6 r7 r8) E rfl hO.1 D (Arv.new A hz) O)
theorem Wk.initO {index Wt : Nat} {a : Addr} (W : Wk p l e R s m args below meth c Z a0 EL own sf T h k n) (w1 : (Cond.methodLink own index Lib.objectInit).before a0 Z = true) (w2 : (Cond.instanceMethod Lib.objectInit).before a0 Z = true) (w3 : (Cond.code Lib.objectInit ⟨#[0xb1]⟩ 1 none).before a0 Z = true) (hsz : Ls.size = c.maxLocals) (hd : decode c.code pc = .ok (.invokespecial index, 3)) (hf : 1 ≤ R.frames) (hW : (rest.map fun v => v.category).sum ≤ Wt) (hl : Wt + 12 ≤ R.locals)
    (go : ∀ T', Wk p l e R s m args below meth c Z a0 EL own sf T' h k n → Go p e below s Z EL rc rs Q (T'.setTop (mkF m (pc + 3) Ls rest))) : Go p e below s Z EL rc rs Q (T.setTop (mkF m pc Ls (.ref a :: rest))) := by
  obtain ⟨u1, u2, u3, u4, vm0, k0, L, X, r1, r2, r3, r4, r5, r⟩ := W
  obtain ⟨T', X', e', st⟩ := Jvm.RoadKit.initO X u1 r4 r5 w1 w2 w3 r1 (g := mkF m pc Ls (.ref a :: rest)) rfl hsz rfl hd hf (W := Wt) (by show 2 * 0 + _ ≤ _; omega) hl
  exact Go.by st (go T' ⟨u1, u2, u3, u4, vm0, k0, L, X', e', r2, r3, r4, r5, r⟩)
/-! calls -/
theorem backK {y : MethodName} {bytes : ByteArray} {maxL : Nat} {ret : Option FieldType} {rm : Room} {len Wt : Nat} {as' : Array Value} {vm0 : Vm} {sf' : List Addr} {Qc : Option Value → Heap → Prop}
    (hM : Con l Z EL sf' y bytes maxL ret [] rm as' h Qc) (hZ : Z.Warmed39 vm0) (wc : (Cond.code y bytes maxL ret).before a0 Z = true) (wz : (Cond.initialized y.cls).before a0 Z = true) (hf : rm.frames + 1 ≤ R.frames) (hl : Wt + (maxL + 11) + rm.locals ≤ R.locals) (hEL : EW Z a0 EL) (H : CHv Z EL vm0 h) (hsf : ∀ x ∈ sf', x < h.size ∧ Safe Z EL vm0 h x) :
    BackS l R p e below (s.setVm vm0) args y len Wt (fun A a => a = as' ∧ A.U.heap = h ∧ A.cells + rm.cells ≤ R.cells ∧ A.slots + rm.slots ≤ R.slots)
      (fun A _ v B => ∃ L, (Qc v B.U.heap ∧ Fr Z.heap.size L) ∧ B.locs = A.locs ++ L ∧ B.cells = A.cells + rm.cells ∧ B.slots = A.slots + rm.slots ∧ CHr Z EL vm0 h B.U.vm B.U.heap) :=
  BackS.of_freeW (bytes := bytes) (maxL := maxL) (ret := ret) (E := fun _ first o t L k n => k = rm.cells ∧ n = rm.slots ∧ (∃ v, o = .returned v ∧ (Qc v t.heap ∧ Fr Z.heap.size L)) ∧ CHr Z EL first.vm first.heap t.vm t.heap) hM hf hl
    (fun m meth c A a Y hp => have hU : Z.Warmed39 A.U.vm := wtrans (s := s.setVm vm0) hZ Y.warmed
      ⟨by show (Cond.and _ .tt).before a A.U = true; rw [Cond.before_and, mv hU wc]; rfl, mv hU wc, mv hU wz, hp.2.2.1, hp.2.2.2⟩)
    (fun m meth c A a g mk Y hp => ⟨hp.1, wtrans (s := s.setVm vm0) hZ Y.warmed, hp.2.1, (CHv.at Y hZ hEL H).1, fun x hx => (CHv.at Y hZ hEL H).safe (hsf x hx).1 (hsf x hx).2⟩) (fun _ _ _ _ _ _ _ _ _ => trivial)
    (fun _ _ _ _ ⟨v, L, h1, h2, h3, h4⟩ => ⟨L, _, _, h4, rfl, rfl, ⟨v, h1, h2⟩, h3⟩)
    (fun m meth c A a g mk v t L k n Y hp _ _ ⟨e1, e2, ⟨v', e3, e4⟩, e5⟩ => by
      cases e3; subst e1 e2
      refine ⟨L, e4, rfl, rfl, rfl, (CHv.at Y hZ hEL H).trans ?_⟩
      rw [← hp.2.1]; exact e5)
theorem Wk.came {B : Pt} {v : Option Value} {rm : Room} {vm0 : Vm} {k0 : Nat} {L Lc : List Loc} {Qc : Option Value → Heap → Prop} (hxm : p.tables.exec = Jvm.exec) (hl : meth.locks = false) (hEW : EW Z a0 EL) (hE : Ext Z.heap s.heap) (X' : Stand p l e R ((s.setVm vm0).setVm B.U.vm) m args below meth c B.U B.locs B.cells B.slots) (hS : (s.setVm vm0).Since B.U.vm B.U.heap.size) (hg : h.size ≤ B.U.heap.size)
    (q : (Qc v B.U.heap ∧ Fr Z.heap.size Lc) ∧ B.locs = L ++ Lc ∧ B.cells = k + rm.cells ∧ B.slots = n + rm.slots ∧ CHr Z EL vm0 h B.U.vm B.U.heap) (r2 : s.Since vm0 k0) (r3 : k0 ≤ h.size) (r4 : Z.Warmed39 vm0) (r5 : vm0.findClass own = some m.cls) (r6 : CHr Z EL s.vm s.heap vm0 h) (r7 : ∀ x ∈ sf, x < h.size ∧ Safe Z EL vm0 h x) (r8 : Fr Z.heap.size L) (ek : k + rm.cells = k') (en : n + rm.slots = n') :
    Wk p l e R s m args below meth c Z a0 EL own sf B.U B.U.heap k' n' := by
  obtain ⟨⟨q1, q2⟩, q3, q4, q5, q6⟩ := q
  rw [q3, q4, q5, ek, en] at X'
  obtain ⟨Y1, Y2, Y3, Y4⟩ := rebS r2 r3 X' hS hg r4 r5
  exact ⟨hxm, hl, hEW, hE, _, _, _, Y1, rfl, Y2, Nat.le_refl _, Y3, Y4, r6.trans q6, fun x hx => ⟨Nat.lt_of_lt_of_le (r7 x hx).1 hg, q6.safe (r7 x hx).1 (r7 x hx).2⟩, r8.app q2⟩
theorem Wk.callS {y : MethodName} {index Wt maxL : Nat} {bytes : ByteArray} {ret : Option FieldType} {rm : Room} {as' : Array Value} {sf' : List Addr} {argsL : List Value} {Qc : Option Value → Heap → Prop} (W : Wk p l e R s m args below meth c Z a0 EL own sf T h k n) (w1 : (Cond.methodLink own index y).before a0 Z = true) (w2 : (Cond.static y).before a0 Z = true) (w3 : (Cond.initialized y.cls).before a0 Z = true) (w4 : (Cond.code y bytes maxL ret).before a0 Z = true) (hy : y.cls ≠ "java/lang/invoke/MethodHandle" ∧ y.cls ≠ "java/lang/invoke/VarHandle")
    (hM : Con l Z EL sf' y bytes maxL ret [] rm as' h Qc) (hsf : ∀ x ∈ sf', x ∈ sf) (hf : rm.frames + 1 ≤ R.frames) (hl : Wt + (maxL + 11) + rm.locals ≤ R.locals) (ek : k + rm.cells = k') (en : n + rm.slots = n') (hk : k' ≤ R.cells) (hn : n' ≤ R.slots) (hsz : Ls.size = c.maxLocals) (hlen : ∀ sig, parseMethodDescriptor y.desc = some sig → argsL.length = sig.parameters.length) (hst : stk = argsL.reverse ++ rest) (has : argsL.toArray = as') (hW : (rest.map fun v => v.category).sum ≤ Wt) (hd : decode c.code pc = .ok (.invokestatic index, 3))
    (go : ∀ v T' h', Wk p l e R s m args below meth c Z a0 EL own sf T' h' k' n' → Qc v h' → Go p e below s Z EL rc rs Q (T'.setTop (mkF m (pc + 3) Ls (v.toList ++ rest)))) : Go p e below s Z EL rc rs Q (T.setTop (mkF m pc Ls stk)) := by
  obtain ⟨u1, u2, u3, u4, vm0, k0, L, X, rfl, r2, r3, r4, r5, r6, r7, r8⟩ := W
  obtain ⟨v, vm₁, B, -, X', hS, hg, ⟨Lc, q⟩, st⟩ := callSS X u1 (y := y) r5 (mvT (s := s.setVm vm0) r4 w1) (mvT (s := s.setVm vm0) r4 w2) (mvT (s := s.setVm vm0) r4 w3) (mvT (s := s.setVm vm0) r4 w4) hy (backK (Wt := Wt) hM r4 w4 w3 hf hl u3 r6.1 fun x hx => r7 x (hsf x hx)) (g := mkF m pc Ls stk) rfl hsz (argsL := argsL) (rest := rest) hlen hst (by show 2 * 0 + _ ≤ _; omega) hd (fun _ _ => ⟨has, rfl, by rw [ek]; exact hk, by rw [en]; exact hn⟩)
  exact Go.of st (go v B.U B.U.heap (Wk.came u1 u2 u3 u4 X' hS hg q r2 r3 r4 r5 r6 r7 r8 ek en) q.1.1)
theorem Wk.callI {y : MethodName} {index Wt maxL : Nat} {bytes : ByteArray} {rm : Room} {as' : Array Value} {sf' : List Addr} {a : Addr} {argsL : List Value} {Qc : Option Value → Heap → Prop} (W : Wk p l e R s m args below meth c Z a0 EL own sf T h k n) (hy1 : y.name = "<init>") (w1 : (Cond.methodLink own index y).before a0 Z = true) (w2 : (Cond.instanceMethod y).before a0 Z = true) (w3 : (Cond.initialized y.cls).before a0 Z = true) (w4 : (Cond.code y bytes maxL none).before a0 Z = true) (hy : y.cls ≠ "java/lang/invoke/MethodHandle" ∧ y.cls ≠ "java/lang/invoke/VarHandle")
    (hM : Con l Z EL sf' y bytes maxL none [] rm as' h Qc) (hsf : ∀ x ∈ sf', x ∈ sf) (hf : rm.frames + 1 ≤ R.frames) (hl : Wt + (maxL + 11) + rm.locals ≤ R.locals) (ek : k + rm.cells = k') (en : n + rm.slots = n') (hk : k' ≤ R.cells) (hn : n' ≤ R.slots) (hsz : Ls.size = c.maxLocals) (hlen : ∀ sig, parseMethodDescriptor y.desc = some sig → argsL.length = sig.parameters.length) (hst : stk = argsL.reverse ++ .ref a :: rest) (has : (.ref a :: argsL).toArray = as') (hW : (rest.map fun v => v.category).sum ≤ Wt) (hd : decode c.code pc = .ok (.invokespecial index, 3))
    (go : ∀ v T' h', Wk p l e R s m args below meth c Z a0 EL own sf T' h' k' n' → Qc v h' → Go p e below s Z EL rc rs Q (T'.setTop (mkF m (pc + 3) Ls (v.toList ++ rest)))) : Go p e below s Z EL rc rs Q (T.setTop (mkF m pc Ls stk)) := by
  obtain ⟨u1, u2, u3, u4, vm0, k0, L, X, rfl, r2, r3, r4, r5, r6, r7, r8⟩ := W
  obtain ⟨v, vm₁, B, -, X', hS, hg, ⟨Lc, q⟩, st⟩ := X.specialBackS u1 (y := y) hy1 r5 (mvT (s := s.setVm vm0) r4 w1) (mvT (s := s.setVm vm0) r4 w2) (mvT (s := s.setVm vm0) r4 w4) hy (backK (Wt := Wt) hM r4 w4 w3 hf hl u3 r6.1 fun x hx => r7 x (hsf x hx)) (g := mkF m pc Ls stk) rfl hsz (Steps.refl _) (a := a) (argsL := argsL) (rest := rest) hlen hst (by show 2 * 0 + _ ≤ _; omega) hd (fun _ _ => ⟨has, rfl, by rw [ek]; exact hk, by rw [en]; exact hn⟩)
  exact Go.of st (go v B.U B.U.heap (Wk.came u1 u2 u3 u4 X' hS hg q r2 r3 r4 r5 r6 r7 r8 ek en) q.1.1)
theorem Wk.callV {y z : MethodName} {index Wt maxL : Nat} {C : String} {bytes : ByteArray} {ret : Option FieldType} {rm : Room} {as' : Array Value} {sf' : List Addr} {a : Addr} {argsL : List Value} {Qc : Option Value → Heap → Prop} (W : Wk p l e R s m args below meth c Z a0 EL own sf T h k n) (w1 : (Cond.methodLink own index y).before a0 Z = true) (w2 : (Cond.declares y).before a0 Z = true) (hnf : ∀ vm : Vm, Z.Warmed39 vm → NotFace (s.setVm vm) y) (w3 : (Cond.selects C y z).before a0 Z = true) (w5 : (Cond.instanceMethod z).before a0 Z = true) (w6 : (Cond.initialized z.cls).before a0 Z = true) (w4 : (Cond.code z bytes maxL ret).before a0 Z = true) (hy : y.cls ≠ "java/lang/invoke/MethodHandle" ∧ y.cls ≠ "java/lang/invoke/VarHandle") (E : Exa Z h a C)
    (hM : Con l Z EL sf' z bytes maxL ret [] rm as' h Qc) (hsf : ∀ x ∈ sf', x ∈ sf) (hf : rm.frames + 1 ≤ R.frames) (hl : Wt + (maxL + 11) + rm.locals ≤ R.locals) (ek : k + rm.cells = k') (en : n + rm.slots = n') (hk : k' ≤ R.cells) (hn : n' ≤ R.slots) (hsz : Ls.size = c.maxLocals) (hlen : ∀ sig, parseMethodDescriptor y.desc = some sig → argsL.length = sig.parameters.length) (hst : stk = argsL.reverse ++ .ref a :: rest) (has : (.ref a :: argsL).toArray = as') (hW : (rest.map fun v => v.category).sum ≤ Wt) (hd : decode c.code pc = .ok (.invokevirtual index, 3))
    (go : ∀ v T' h', Wk p l e R s m args below meth c Z a0 EL own sf T' h' k' n' → Qc v h' → Go p e below s Z EL rc rs Q (T'.setTop (mkF m (pc + 3) Ls (v.toList ++ rest)))) : Go p e below s Z EL rc rs Q (T.setTop (mkF m pc Ls stk)) := by
  obtain ⟨u1, u2, u3, u4, vm0, k0, L, X, rfl, r2, r3, r4, r5, r6, r7, r8⟩ := W
  obtain ⟨cq, kq, qa, qb, qc⟩ := isOf (s := s.setVm vm0) (T := T) r4 rfl E
  obtain ⟨v, vm₁, B, -, X', hS, hg, ⟨Lc, q⟩, st⟩ := X.virtualBackS u1 (y := y) (z := z) r5 (mvT (s := s.setVm vm0) r4 w1) (mvT (s := s.setVm vm0) r4 w2) (hnf vm0 r4) (mvT (s := s.setVm vm0) r4 w3) (mvT (s := s.setVm vm0) r4 w5) hy (backK (Wt := Wt) hM r4 w4 w6 hf hl u3 r6.1 fun x hx => r7 x (hsf x hx)) qa qc (g := mkF m pc Ls stk) rfl hsz (Steps.refl _) (argsL := argsL) (rest := rest) hlen hst (by show 2 * 0 + _ ≤ _; omega) hd (fun _ _ => ⟨has, rfl, by rw [ek]; exact hk, by rw [en]; exact hn⟩)
  exact Go.of st (go v B.U B.U.heap (Wk.came u1 u2 u3 u4 X' hS hg q r2 r3 r4 r5 r6 r7 r8 ek en) q.1.1)
theorem nf_sel {y z : MethodName} {C : String} (hyz : y = z) (w3 : (Cond.selects C y z).before a0 Z = true) : ∀ vm : Vm, Z.Warmed39 vm → NotFace (s.setVm vm) y := fun vm hv => by
  subst hyz; exact notFace_of_selects (args := #[]) (mvT (s := s.setVm vm) hv w3)
theorem cat1 {v : Value} (h : v.isRef = true) : v.category = 1 := by cases v <;> simp [Value.isRef, Value.category] at h ⊢
theorem fits_ref_of {ty : FieldType} {v : Value} (h : v.isRef = true) (ht : ty.isReference = true := by rfl) : fits ty v = true := by cases ty <;> first | (cases ht; done) | (cases v <;> simp [fits, Value.isRef] at h ⊢)
theorem narrow_ref_of {ty : FieldType} {v : Value} (h : v.isRef = true) : narrow ty v = v := by cases v <;> first | (simp [Value.isRef] at h; done) | (cases ty <;> rfl)
theorem iremW {tb : Tables} [Ours tb] {target : State} {g : JFrame} (hh : At T m c below) (hx : tb.exec = Jvm.exec) (hg : g.method = m) {x y : Int32} (hd : decode c.code g.pc = .ok (.irem, 1)) (hs : g.stack = .int y :: .int x :: rest) (hy : y ≠ 0) (hr : Steps tb e below (T.setTop { g with pc := g.pc + 1, stack := .int (x % y) :: rest }) target) : Steps tb e below (T.setTop g) target := by
  have q : x - x / y * y = x % y := irem_eq_mod x y
  exact XS.irem hh hx hg hd hs hy (by rw [q]; exact hr)
theorem acmpW {g : JFrame} {target : State} (W : Wk p l e R s m args below meth c Z a0 EL own sf T h k n) (hg : g.method = m) {cd : ACond} {x y : Value} (h1 : x.isRef = true) (h2 : y.isRef = true) {o : Int} {pc0 pc' : Nat} {same : Bool} (hpc : g.pc = pc0) (hd : decode c.code g.pc = .ok (.if_acmp cd o, 3)) (hs : g.stack = y :: x :: rest) (hq : decide (x = y) = same) (ho : 0 ≤ (pc0 : Int) + o) (hp : pc' = if acV cd same = true then ((pc0 : Int) + o).toNat else pc0 + 3)
    (hr : Steps p.tables e below (T.setTop { g with pc := pc', stack := rest }) target) : Steps p.tables e below (T.setTop g) target := by
  obtain ⟨w1, w2, w3, w4, vm0, k0, L, X, r⟩ := W
  exact Jvm.RoadKit.acmp X w1 hg h1 h2 hpc hd hs hq ho hp hr
theorem Wk.retJ {z : Int64} (W : Wk p l e R s m args below meth c Z a0 EL own sf T h k n) (hk : k ≤ rc) (hn : n ≤ rs) (hret : meth.sig.returnType = some .long) (hd : decode c.code pc = .ok (.lreturn, 1)) (q : Q (some (.long z)) h) : Go p e below s Z EL rc rs Q (T.setTop (mkF m pc Ls (.long z :: rest))) :=
  W.ret hk hn (fun h => by rw [hret] at h; cases h) q fun X fs hr => retOut X W.hx hret rfl (Or.inr (Or.inl ⟨rfl, rfl, z, rfl⟩)) hd hr
theorem Wk.callSp {y : MethodName} {index Wt maxL : Nat} {bytes : ByteArray} {ret : Option FieldType} {rm : Room} {as' : Array Value} {sf' : List Addr} {argsL : List Value} {r : Option Value} (W : Wk p l e R s m args below meth c Z a0 EL own sf T h k n) (w1 : (Cond.methodLink own index y).before a0 Z = true) (w2 : (Cond.static y).before a0 Z = true) (w3 : (Cond.initialized y.cls).before a0 Z = true) (w4 : (Cond.code y bytes maxL ret).before a0 Z = true) (hy : y.cls ≠ "java/lang/invoke/MethodHandle" ∧ y.cls ≠ "java/lang/invoke/VarHandle")
    (hM : Con l Z EL sf' y bytes maxL ret [] rm as' h (fun v h' => v = r ∧ h' = h)) (hsf : ∀ x ∈ sf', x ∈ sf) (hf : rm.frames + 1 ≤ R.frames) (hl : Wt + (maxL + 11) + rm.locals ≤ R.locals) (ek : k + rm.cells = k') (en : n + rm.slots = n') (hk : k' ≤ R.cells) (hn : n' ≤ R.slots) (hsz : Ls.size = c.maxLocals) (hlen : ∀ sig, parseMethodDescriptor y.desc = some sig → argsL.length = sig.parameters.length) (hst : stk = argsL.reverse ++ rest) (has : argsL.toArray = as') (hW : (rest.map fun v => v.category).sum ≤ Wt) (hd : decode c.code pc = .ok (.invokestatic index, 3))
    (go : ∀ T', Wk p l e R s m args below meth c Z a0 EL own sf T' h k' n' → Go p e below s Z EL rc rs Q (T'.setTop (mkF m (pc + 3) Ls (r.toList ++ rest)))) : Go p e below s Z EL rc rs Q (T.setTop (mkF m pc Ls stk)) :=
  W.callS w1 w2 w3 w4 hy hM hsf hf hl ek en hk hn hsz hlen hst has hW hd fun v T' h' W' ⟨q1, q2⟩ => by subst q1 q2; exact go T' W'
theorem Wk.callIp {y : MethodName} {index Wt maxL : Nat} {bytes : ByteArray} {rm : Room} {as' : Array Value} {sf' : List Addr} {a : Addr} {argsL : List Value} {r : Option Value} (W : Wk p l e R s m args below meth c Z a0 EL own sf T h k n) (hy1 : y.name = "<init>") (w1 : (Cond.methodLink own index y).before a0 Z = true) (w2 : (Cond.instanceMethod y).before a0 Z = true) (w3 : (Cond.initialized y.cls).before a0 Z = true) (w4 : (Cond.code y bytes maxL none).before a0 Z = true) (hy : y.cls ≠ "java/lang/invoke/MethodHandle" ∧ y.cls ≠ "java/lang/invoke/VarHandle")
    (hM : Con l Z EL sf' y bytes maxL none [] rm as' h (fun v h' => v = r ∧ h' = h)) (hsf : ∀ x ∈ sf', x ∈ sf) (hf : rm.frames + 1 ≤ R.frames) (hl : Wt + (maxL + 11) + rm.locals ≤ R.locals) (ek : k + rm.cells = k') (en : n + rm.slots = n') (hk : k' ≤ R.cells) (hn : n' ≤ R.slots) (hsz : Ls.size = c.maxLocals) (hlen : ∀ sig, parseMethodDescriptor y.desc = some sig → argsL.length = sig.parameters.length) (hst : stk = argsL.reverse ++ .ref a :: rest) (has : (.ref a :: argsL).toArray = as') (hW : (rest.map fun v => v.category).sum ≤ Wt) (hd : decode c.code pc = .ok (.invokespecial index, 3))
    (go : ∀ T', Wk p l e R s m args below meth c Z a0 EL own sf T' h k' n' → Go p e below s Z EL rc rs Q (T'.setTop (mkF m (pc + 3) Ls (r.toList ++ rest)))) : Go p e below s Z EL rc rs Q (T.setTop (mkF m pc Ls stk)) :=
  W.callI hy1 w1 w2 w3 w4 hy hM hsf hf hl ek en hk hn hsz hlen hst has hW hd fun v T' h' W' ⟨q1, q2⟩ => by subst q1 q2; exact go T' W'
theorem Wk.callVp {y z : MethodName} {index Wt maxL : Nat} {C : String} {bytes : ByteArray} {ret : Option FieldType} {rm : Room} {as' : Array Value} {sf' : List Addr} {a : Addr} {argsL : List Value} {r : Option Value} (W : Wk p l e R s m args below meth c Z a0 EL own sf T h k n) (w1 : (Cond.methodLink own index y).before a0 Z = true) (w2 : (Cond.declares y).before a0 Z = true) (hnf : ∀ vm : Vm, Z.Warmed39 vm → NotFace (s.setVm vm) y) (w3 : (Cond.selects C y z).before a0 Z = true) (w5 : (Cond.instanceMethod z).before a0 Z = true) (w6 : (Cond.initialized z.cls).before a0 Z = true) (w4 : (Cond.code z bytes maxL ret).before a0 Z = true) (hy : y.cls ≠ "java/lang/invoke/MethodHandle" ∧ y.cls ≠ "java/lang/invoke/VarHandle") (E : Exa Z h a C)
    (hM : Con l Z EL sf' z bytes maxL ret [] rm as' h (fun v h' => v = r ∧ h' = h)) (hsf : ∀ x ∈ sf', x ∈ sf) (hf : rm.frames + 1 ≤ R.frames) (hl : Wt + (maxL + 11) + rm.locals ≤ R.locals) (ek : k + rm.cells = k') (en : n + rm.slots = n') (hk : k' ≤ R.cells) (hn : n' ≤ R.slots) (hsz : Ls.size = c.maxLocals) (hlen : ∀ sig, parseMethodDescriptor y.desc = some sig → argsL.length = sig.parameters.length) (hst : stk = argsL.reverse ++ .ref a :: rest) (has : (.ref a :: argsL).toArray = as') (hW : (rest.map fun v => v.category).sum ≤ Wt) (hd : decode c.code pc = .ok (.invokevirtual index, 3))
    (go : ∀ T', Wk p l e R s m args below meth c Z a0 EL own sf T' h k' n' → Go p e below s Z EL rc rs Q (T'.setTop (mkF m (pc + 3) Ls (r.toList ++ rest)))) : Go p e below s Z EL rc rs Q (T.setTop (mkF m pc Ls stk)) :=
  W.callV w1 w2 hnf w3 w5 w6 w4 hy E hM hsf hf hl ek en hk hn hsz hlen hst has hW hd fun v T' h' W' ⟨q1, q2⟩ => by subst q1 q2; exact go T' W'
theorem Wk.callP {y : MethodName} {index Wt maxL : Nat} {C : String} {bytes : ByteArray} {ret : Option FieldType} {rm : Room} {as' : Array Value} {sf' : List Addr} {a : Addr} {argsL : List Value} {Qc : Option Value → Heap → Prop} (W : Wk p l e R s m args below meth c Z a0 EL own sf T h k n) (w1 : (Cond.methodLink own index y).before a0 Z = true) (w2 : (Cond.instanceMethod y).before a0 Z = true) (w3 : (Cond.selects y.cls y y).before a0 Z = true) (w5 : (Cond.privateMethod y).before a0 Z = true) (w6 : (Cond.initialized y.cls).before a0 Z = true) (w4 : (Cond.code y bytes maxL ret).before a0 Z = true) (hy : y.cls ≠ "java/lang/invoke/MethodHandle" ∧ y.cls ≠ "java/lang/invoke/VarHandle") (E : Exa Z h a C)
    (hM : Con l Z EL sf' y bytes maxL ret [] rm as' h Qc) (hsf : ∀ x ∈ sf', x ∈ sf) (hf : rm.frames + 1 ≤ R.frames) (hl : Wt + (maxL + 11) + rm.locals ≤ R.locals) (ek : k + rm.cells = k') (en : n + rm.slots = n') (hk : k' ≤ R.cells) (hn : n' ≤ R.slots) (hsz : Ls.size = c.maxLocals) (hlen : ∀ sig, parseMethodDescriptor y.desc = some sig → argsL.length = sig.parameters.length) (hst : stk = argsL.reverse ++ .ref a :: rest) (has : (.ref a :: argsL).toArray = as') (hW : (rest.map fun v => v.category).sum ≤ Wt) (hd : decode c.code pc = .ok (.invokevirtual index, 3))
    (go : ∀ v T' h', Wk p l e R s m args below meth c Z a0 EL own sf T' h' k' n' → Qc v h' → Go p e below s Z EL rc rs Q (T'.setTop (mkF m (pc + 3) Ls (v.toList ++ rest)))) : Go p e below s Z EL rc rs Q (T.setTop (mkF m pc Ls stk)) := by
  obtain ⟨u1, u2, u3, u4, vm0, k0, L, X, rfl, r2, r3, r4, r5, r6, r7, r8⟩ := W
  obtain ⟨cq, q1, q2⟩ := E.cell
  obtain ⟨v, vm₁, B, -, X', hS, hg, ⟨Lc, q⟩, st⟩ := X.privateBackS u1 (y := y) r5 (mvT (s := s.setVm vm0) r4 w1) (mvT (s := s.setVm vm0) r4 w2) (mvT (s := s.setVm vm0) r4 w3) (Cond.privateMethod_at (mvP (s := s.setVm vm0) r4 w5 (args := #[]))) (mvT (s := s.setVm vm0) r4 w4) hy (backK (Wt := Wt) hM r4 w4 w6 hf hl u3 r6.1 fun x hx => r7 x (hsf x hx)) (g := mkF m pc Ls stk) rfl hsz (Steps.refl _) (a := a) q1 q2 (argsL := argsL) (rest := rest) hlen hst (by show 2 * 0 + _ ≤ _; omega) hd (fun _ _ => ⟨has, rfl, by rw [ek]; exact hk, by rw [en]; exact hn⟩)
  exact Go.of st (go v B.U B.U.heap (Wk.came u1 u2 u3 u4 X' hS hg q r2 r3 r4 r5 r6 r7 r8 ek en) q.1.1)
theorem Wk.ldcI {index : Nat} {v : Int32} (W : Wk p l e R s m args below meth c Z a0 EL own sf T h k n) (w : (Cond.constant own index v).before a0 Z = true) (hd : decode c.code pc = .ok (.ldc index, 2)) (go : Go p e below s Z EL rc rs Q (T.setTop (mkF m (pc + 2) Ls (.int v :: stk)))) : Go p e below s Z EL rc rs Q (T.setTop (mkF m pc Ls stk)) := by
  obtain ⟨w1, w2, w3, w4, vm0, k0, L, X, r1, r2, r3, r4, r5, r⟩ := W
  exact Go.by (X.ldcInt w1 r5 (mvT (s := s.setVm vm0) r4 w) (g := mkF m pc Ls stk) rfl hd) go
theorem Wk.ldcJ {index : Nat} {v : Int64} (W : Wk p l e R s m args below meth c Z a0 EL own sf T h k n) (w : (Cond.constantLong own index v).before a0 Z = true) (hd : decode c.code pc = .ok (.ldc2_w index, 3)) (go : Go p e below s Z EL rc rs Q (T.setTop (mkF m (pc + 3) Ls (.long v :: stk)))) : Go p e below s Z EL rc rs Q (T.setTop (mkF m pc Ls stk)) := by
  obtain ⟨w1, w2, w3, w4, vm0, k0, L, X, r1, r2, r3, r4, r5, r⟩ := W
  exact Go.by (X.ldc2Long w1 r5 (mvT (s := s.setVm vm0) r4 w) (g := mkF m pc Ls stk) rfl hd) go
theorem Wk.cloneA {index Wt cap : Nat} {ad : String} {a : Addr} {kA : ClassId} {ty : FieldType} {z : Int32} {vs : List Value} {dv : Value} (W : Wk p l e R s m args below meth c Z a0 EL own sf T h k n) (w1 : (Cond.methodLink own index ⟨ad, "clone", "()Ljava/lang/Object;"⟩).before a0 Z = true) (w2 : (Cond.sameMethod ad "java/lang/Object" "clone" "()Ljava/lang/Object;").before a0 Z = true) (w3 : (Cond.native ⟨"java/lang/Object", "clone", "()Ljava/lang/Object;"⟩).before a0 Z = true)
    (w4 : (Cond.instanceMethod ⟨"java/lang/Object", "clone", "()Ljava/lang/Object;"⟩).before a0 Z = true) (w5 : (Cond.selects ad ⟨ad, "clone", "()Ljava/lang/Object;"⟩ ⟨"java/lang/Object", "clone", "()Ljava/lang/Object;"⟩).before a0 Z = true) (w6 : (Cond.castable ad "java/lang/Cloneable").before a0 Z = true) (F : Arv Z h a kA ty z vs dv) (E : Exa Z h a ad) (hsz : Ls.size = c.maxLocals) (hd : decode c.code pc = .ok (.invokevirtual index, 3))
    (hf : 1 ≤ R.frames) (hW : (rest.map fun v => v.category).sum ≤ Wt) (hl : Wt + 14 ≤ R.locals) (hcap : z.toNatClampNeg ≤ cap) (ek : k + 1 = k') (en : n + cap = n') (hk : k' ≤ R.cells) (hn : n' ≤ R.slots)
    (go : ∀ T' h' x, Wk p l e R s m args below meth c Z a0 EL own (x :: sf) T' h' k' n' → Ext h h' → h.size = x → Z.heap.size ≤ x → Arv Z h' x kA ty z vs dv → Exa Z h' x ad → Go p e below s Z EL rc rs Q (T'.setTop (mkF m (pc + 3) Ls (.ref x :: rest)))) : Go p e below s Z EL rc rs Q (T.setTop (mkF m pc Ls (.ref a :: rest))) := by
  have hO := W.old
  obtain ⟨u1, u2, u3, u4, vm0, k0, L, X, r1, r2, r3, r4, r5, r6, r7, r8⟩ := W
  subst ek en
  obtain ⟨T', h', X', e', E', A, D, st⟩ := cloneH X u1 r4 r5 w1 w2 w3 w4 w5 w6 r1 F.arh E (g := mkF m pc Ls (.ref a :: rest)) rfl hsz rfl hd hf (W := Wt) (by show 2 * 0 + _ ≤ _; omega) hl hcap hk hn
  exact Go.by st (go T' h' _ (Wk.grew u1 u2 u3 u4 X' e' E' D.lt (Nat.le_refl _) r2 r3 r4 r5 r6 r7 r8) E' rfl hO.1 A D)
/-- the terms elem t i, elem t (i + 1), .. hold vs -/
def HasE (args : Array Value) (Z : State) (t : Term) : Nat → List Value → Prop
  | _, [] => True
  | i, v :: vs => (Term.elem t (.int (Int32.ofNat i))).eval args Z none [] Z = some v ∧ HasE args Z t (i + 1) vs
theorem clampN {i : Nat} (h : i < 2 ^ 31) : (Int32.ofNat i).toNatClampNeg = i := by
  have := Int32.toInt_ofNat_small h
  rw [Int32.toNatClampNeg, this]; simp
theorem HasE.has {t : Term} {a : Addr} {cl : Cell} (ev : t.eval args Z none [] Z = some (.ref a)) (hc : Z.heap[a]? = some cl) : ∀ (vs : List Value) (i : Nat), i + vs.length < 2 ^ 31 → HasE args Z t i vs → HasL cl i vs
  | [], i, _, _ => trivial
  | v :: vs, i, hi, H => by
    have hl : (v :: vs).length = vs.length + 1 := rfl
    refine ⟨?_, HasE.has ev hc vs (i + 1) (by omega) H.2⟩
    have q := (elem_in H.1 ev (Term.int_eval _) hc).2
    rwa [clampN (by omega)] at q
theorem arv_of {t : Term} {a : Addr} {ty : FieldType} {z : Int32} {vs : List Value} {dv : Value} (hf : Fit Z) (ev : t.eval args Z none [] Z = some (.ref a)) (hA : (Cond.arrayOf t ty).value args Z none Z [] = some true) (hl : (Term.length t).eval args Z none [] Z = some (.int z)) (hz : ¬ z < 0) (hn : z.toNatClampNeg = vs.length) (hb : vs.length < 2 ^ 31) (H : HasE args Z t 0 vs) : ∃ k, Arv Z Z.heap a k ty z vs dv := by
  obtain ⟨cl, A⟩ := Arr.start ev hA
  have h1 := A.fin (Vm.Alike.refl _)
  have h31 := Jvm.Free.SBG.length_lt ev h1 hl
  have e1 := len_f ev h1 h31
  have e2 : cl.slots.size.toInt32 = z := by simpa using Option.some.inj (e1.symm.trans hl)
  exact ⟨cl.cls, Arv.start hf A h31 e2 hz hn (HasE.has ev A.1 vs 0 (by omega) H)⟩
theorem Wk.callSr {y : MethodName} {index Wt maxL : Nat} {bytes : ByteArray} {ret : Option FieldType} {rm : Room} {as' : Array Value} {sf' : List Addr} {argsL : List Value} {P : Option Value → Prop} (W : Wk p l e R s m args below meth c Z a0 EL own sf T h k n) (w1 : (Cond.methodLink own index y).before a0 Z = true) (w2 : (Cond.static y).before a0 Z = true) (w3 : (Cond.initialized y.cls).before a0 Z = true) (w4 : (Cond.code y bytes maxL ret).before a0 Z = true) (hy : y.cls ≠ "java/lang/invoke/MethodHandle" ∧ y.cls ≠ "java/lang/invoke/VarHandle")
    (hM : Con l Z EL sf' y bytes maxL ret [] rm as' h (fun v h' => P v ∧ h' = h)) (hsf : ∀ x ∈ sf', x ∈ sf) (hf : rm.frames + 1 ≤ R.frames) (hl : Wt + (maxL + 11) + rm.locals ≤ R.locals) (ek : k + rm.cells = k') (en : n + rm.slots = n') (hk : k' ≤ R.cells) (hn : n' ≤ R.slots) (hsz : Ls.size = c.maxLocals) (hlen : ∀ sig, parseMethodDescriptor y.desc = some sig → argsL.length = sig.parameters.length) (hst : stk = argsL.reverse ++ rest) (has : argsL.toArray = as') (hW : (rest.map fun v => v.category).sum ≤ Wt) (hd : decode c.code pc = .ok (.invokestatic index, 3))
    (go : ∀ v T', Wk p l e R s m args below meth c Z a0 EL own sf T' h k' n' → P v → Go p e below s Z EL rc rs Q (T'.setTop (mkF m (pc + 3) Ls (v.toList ++ rest)))) : Go p e below s Z EL rc rs Q (T.setTop (mkF m pc Ls stk)) :=
  W.callS w1 w2 w3 w4 hy hM hsf hf hl ek en hk hn hsz hlen hst has hW hd fun v T' h' W' ⟨q1, q2⟩ => by subst q2; exact go v T' W' q1
end Kit
section KitStr
variable {p : Program} {l : Launch} {e : Env} {R : Room} {s : State} {m : MethodId} {args : Array Value} {below : List Frame} {meth : Method} {c : Code} {Z : State} {a0 : Array Value} {EL : List (String × Nat)} {own : String} {sf : List Addr} {T : State} {h h' h0 : Heap} {k n k' n' rc rs pc : Nat} {Ls : Array Slot} {stk rest : List Value} {Q : Option Value → Heap → Prop} {a x : Addr} {cs ds : List Int32}
/-- the object at a is a String that spells cs -/
def Str (Z : State) (h : Heap) (a : Addr) (cs : List Int32) : Prop := ∃ (t : Addr) (kb : ClassId) (cd N2 : Int32) (vs : List Value), Exa Z h a "java/lang/String" ∧ Fld Z h a "java/lang/String" "value" "[B" (.ref t) ∧ Fld Z h a "java/lang/String" "coder" "B" (.int cd) ∧ Arv Z h t kb .byte N2 vs (.int 0) ∧ StrChars.Road.CodA cs cd N2 vs ∧ (∀ c ∈ cs, ¬ c < 0 ∧ ¬ (65535 : Int32) < c)
theorem Str.ext (S : Str Z h a cs) (E : Ext h h') : Str Z h' a cs := by
  obtain ⟨t, kb, cd, N2, vs, s1, s2, s3, s4, s5, s6⟩ := S; exact ⟨t, kb, cd, N2, vs, s1.ext E, s2.ext E, s3.ext E, s4.ext E, s5, s6⟩
theorem Str.exa (S : Str Z h a cs) : Exa Z h a "java/lang/String" := by obtain ⟨t, kb, cd, N2, vs, s1, -⟩ := S; exact s1
theorem Str.lt (S : Str Z h a cs) : a < h.size := S.exa.lt
theorem Str.keep {C : String} {N : Nat} (S : Str Z h a cs) (K : Keep h h' [x]) (E : Exa Z h x C) (wi : (Cond.instantiable C N).before a0 Z = true) (ne : a ≠ x) : Str Z h' a cs := by
  obtain ⟨t, kb, cd, N2, vs, s1, s2, s3, s4, s5, s6⟩ := S
  exact ⟨t, kb, cd, N2, vs, s1.keep K, s2.keep K (ninS ne nin0), s3.keep K (ninS ne nin0), s4.keep K (ninS (Ne.symm (E.neArv s4 wi)) nin0), s5, s6⟩
theorem Str.wr {C : String} {N sl : Nat} {v : Value} (S : Str Z h a cs) (W : Wr h h' x sl v) (E : Exa Z h x C) (wi : (Cond.instantiable C N).before a0 Z = true) (ne : a ≠ x) : Str Z h' a cs := S.keep (Keep.of_wr W) E wi ne
theorem Ext.trans' {h h1 h2 : Heap} (A : Ext h h1) (B : Ext h1 h2) : Ext h h2 := ⟨Nat.le_trans A.1 B.1, fun a c q => B.2 a c (A.2 a c q)⟩
theorem Ext.refl' (h : Heap) : Ext h h := ⟨Nat.le_refl _, fun _ _ q => q⟩
theorem Ext.keep' {h h1 h2 : Heap} {ws : List Addr} (A : Ext h h1) (K : Keep h1 h2 ws) (q : ∀ x ∈ ws, h.size ≤ x) : Ext h h2 := ⟨Nat.le_trans A.1 K.1, fun a c r => K.2.1 a c (A.2 a c r) fun z => absurd (Array.getElem?_eq_some_iff.mp r).1 (Nat.not_lt.mpr (q a z))⟩
theorem Ext.wr' {h h1 h2 : Heap} {x : Addr} {sl : Nat} {v : Value} (A : Ext h h1) (W : Wr h1 h2 x sl v) (q : h.size ≤ x) : Ext h h2 := Ext.keep' A (Keep.of_wr W) (allS q all0)
theorem Wk.kept {ws : List Addr} {T' : State} {L : List Loc} {vm0 : Vm} {k0 : Nat} (hxm : p.tables.exec = Jvm.exec) (hl : meth.locks = false) (hEW : EW Z a0 EL) (hE : Ext Z.heap s.heap) (X' : Stand p l e R (s.setVm vm0) m args below meth c T' L k' n') (e' : T'.heap = h') (K : Keep h h' ws) (hws : ∀ x ∈ ws, x ∈ sf) (r2 : s.Since vm0 k0) (r3 : k0 ≤ h.size) (r4 : Z.Warmed39 vm0) (r5 : vm0.findClass own = some m.cls) (r6 : CHr Z EL s.vm s.heap vm0 h) (r7 : ∀ x ∈ sf, x < h.size ∧ Safe Z EL vm0 h x) (r8 : Fr Z.heap.size L) :
    Wk p l e R s m args below meth c Z a0 EL own sf T' h' k' n' :=
  ⟨hxm, hl, hEW, hE, vm0, k0, L, X', e', r2, Nat.le_trans r3 K.1, r4, r5, r6.trans (CHr.keep K (fun x hx => (r7 x (hws x hx)).2) r6.1), fun y hy => ⟨Nat.lt_of_lt_of_le (r7 y hy).1 K.1, Safe.keep K (fun x hx => (r7 x (hws x hx)).2) r6.1 (r7 y hy).2⟩, r8⟩
theorem pdCs : parseMethodDescriptor "([C)V" = some ⟨[(.array .char)], none⟩ := by decide +kernel
/-- new String(chars): 1 to 4000 chars, each below 256 -/
theorem Wk.strV {index Wt q : Nat} {b : Addr} {kC : ClassId} {dv v0 c0 : Value} {z N : Int32} (W : Wk p l e R s m args below meth c Z a0 EL own sf T h k n) (hws : ∀ d ∈ StrChars.Road.words, d.before a0 Z = true) (wi : (Cond.instantiable "java/lang/String" 4).before a0 Z = true) (w1 : (Cond.methodLink own index ⟨"java/lang/String", "<init>", "([C)V"⟩).before a0 Z = true) (w2 : (Cond.instanceMethod ⟨"java/lang/String", "<init>", "([C)V"⟩).before a0 Z = true)
    (E : Exa Z h x "java/lang/String") (V : Fld Z h x "java/lang/String" "value" "[B" v0) (C : Fld Z h x "java/lang/String" "coder" "B" c0) (K : Arv Z h b kC .char N (cs.map Value.int) dv) (S : Sta Z h "java/lang/String" "COMPACT_STRINGS" "Z" (.int z)) (hz : ¬ z = 0) (hq : cs.length = q) (hN : N = Int32.ofNat q) (l0 : 0 < q) (l2 : q ≤ 4000) (hp : ∀ c ∈ cs, ¬ c < 0 ∧ ¬ (255 : Int32) < c) (hx : Z.heap.size ≤ x) (hs : x ∈ sf)
    (hf : 4 ≤ R.frames) (hl : Wt + 65 ≤ R.locals) (ek : k + 1 = k') (en : n + q = n') (hk : k' ≤ R.cells) (hn : n' ≤ R.slots) (hsz : Ls.size = c.maxLocals) (hW : (rest.map fun v => v.category).sum ≤ Wt) (hd : decode c.code pc = .ok (.invokespecial index, 3))
    (go : ∀ T' h', Wk p l e R s m args below meth c Z a0 EL own sf T' h' k' n' → Keep h h' [x] → Str Z h' x cs → Go p e below s Z EL rc rs Q (T'.setTop (mkF m (pc + 3) Ls rest))) : Go p e below s Z EL rc rs Q (T.setTop (mkF m pc Ls (.ref b :: .ref x :: rest))) := by
  have hO := W.old
  obtain ⟨u1, u2, u3, u4, vm0, k0, L, X, rfl, r2, r3, r4, r5, r6, r7, r8⟩ := W
  obtain ⟨v, vm₁, ⟨T', L', k1, n1⟩, -, X', ⟨Lc, hQ, l', y', z'⟩, st⟩ := X.specialBack u1 (y := (⟨"java/lang/String", "<init>", "([C)V"⟩ : MethodName)) rfl r5 (mvT (s := s.setVm vm0) r4 w1) (mvT (s := s.setVm vm0) r4 w2) (mvT (s := s.setVm vm0) r4 (hws _ (List.mem_cons_self ..))) (by decide)
    (StrChars.Road.backV (W := Wt) (s := s.setVm vm0) r4 hws wi (bs := cs.map (fun c => c.toInt8.toInt32)) hx hO.1 E V C K S hz hq hN l0 l2 hp rfl hf hl) (g := mkF m pc Ls (.ref b :: .ref x :: rest)) rfl hsz (Steps.refl _) (a := x) (argsL := [.ref b]) (rest := rest) (lenOf pdCs rfl) rfl (by show 2 * 0 + _ ≤ _; omega) hd (fun _ _ => ⟨rfl, rfl, by rw [ek]; exact hk, by rw [en]; exact hn⟩)
  dsimp only [Pt.U, Pt.locs, Pt.cells, Pt.slots] at X' l' y' z' st hQ
  subst l' y' z'
  obtain ⟨rfl, N', K', g1, g2, t, kb, -, -, -, g3, g4⟩ := hQ
  rw [ek, en] at X'
  subst hq hN
  exact Go.of st (go T' T'.heap (Wk.kept u1 u2 u3 u4 X' rfl K' (allS hs all0) r2 r3 r4 r5 r6 r7 (r8.app N')) K' ⟨t, kb, 0, _, _, g1, g3, g2, g4, StrChars.Road.codOf rfl (fun c hc => (hp c hc).2), fun c hc => ⟨(hp c hc).1, fun q => (hp c hc).2 (by rw [Int32.lt_iff_toInt_lt] at q ⊢; have e1 : (65535 : Int32).toInt = 65535 := rfl; have e2 : (255 : Int32).toInt = 255 := rfl; omega)⟩⟩)
/-! literals -/
/-- ldc of a String literal, whose text isn't asked -/
theorem Wk.ldcO {index q : Nat} {text : String} (W : Wk p l e R s m args below meth c Z a0 EL own sf T h k n) (w : (Cond.stringLink own index text).before a0 Z = true) (wS : ∀ a ∈ Bundle.stringAtoms, a.before a0 Z = true) (hd : decode c.code pc = .ok (.ldc index, 2)) (hq : 4 * text.toList.length ≤ q) (hbig : q ≤ 536870912) (ek : k + 2 = k') (en : n + (q + 4) = n') (hk : k' ≤ R.cells) (hn : n' ≤ R.slots)
    (go : ∀ T' h' a, Wk p l e R s m args below meth c Z a0 EL own sf T' h' k' n' → Ext h h' → Go p e below s Z EL rc rs Q (T'.setTop (mkF m (pc + 2) Ls (.ref a :: stk)))) : Go p e below s Z EL rc rs Q (T.setTop (mkF m pc Ls stk)) := by
  obtain ⟨u1, u2, u3, u4, vm0, k0, L, X, r1, r2, r3, r4, r5, r6, r7, r8⟩ := W
  subst ek en
  obtain ⟨a, T', h', k1, X', e', E, hS, hk1, hW, hf, hC, -, st⟩ := ldcOH X u1 r4 r5 w wS r1 r2 r3 u3 r6.1 (g := mkF m pc Ls stk) rfl hd hq hbig hk hn
  exact Go.by st (go T' h' a ⟨u1, u2, u3, u4, T'.vm, k1, L, X', e', hS, hk1, hW, hf, r6.trans hC, fun x hx => ⟨Nat.lt_of_lt_of_le (r7 x hx).1 E.1, hC.safe (r7 x hx).1 (r7 x hx).2⟩, r8⟩ E)
/-- ldc of a String literal, read -/
theorem Wk.ldcC {index q : Nat} {text : String} (W : Wk p l e R s m args below meth c Z a0 EL own sf T h k n) (w : (Cond.stringLink own index text).before a0 Z = true) (wS : ∀ a ∈ Bundle.stringAtoms, a.before a0 Z = true) (hmem : (own, index) ∈ EL) (ht : (∀ c ∈ text.toList, c.toNat < 256) ∧ text.toList.map (fun c => Value.int (Jvm.Lit.byteI c.toNat.toUInt16)) = cs.map (fun c => Value.int (StrChars.lo8 c))) (hz : ¬ (Int32.ofNat cs.length) < 0) (hl : (Int32.ofNat cs.length).toNatClampNeg = cs.length) (hb : ∀ c ∈ cs, ¬ c < 0 ∧ ¬ (255 : Int32) < c ∧ ¬ (65535 : Int32) < c)
    (hd : decode c.code pc = .ok (.ldc index, 2)) (hq : 4 * text.toList.length ≤ q) (hbig : q ≤ 536870912) (ek : k + 2 = k') (en : n + (q + 4) = n') (hk : k' ≤ R.cells) (hn : n' ≤ R.slots)
    (go : ∀ T' h' a, Wk p l e R s m args below meth c Z a0 EL own sf T' h' k' n' → Ext h h' → Str Z h' a cs → (∀ x ∈ sf, x ≠ a) → Go p e below s Z EL rc rs Q (T'.setTop (mkF m (pc + 2) Ls (.ref a :: stk)))) : Go p e below s Z EL rc rs Q (T.setTop (mkF m pc Ls stk)) := by
  obtain ⟨u1, u2, u3, u4, vm0, k0, L, X, r1, r2, r3, r4, r5, r6, r7, r8⟩ := W
  subst ek en
  obtain ⟨a, T', h', k1, b, kb, X', e', E, hS, hk1, hW, hf, g1, g2, g3, g4, -, -, hC, -, hne, st⟩ := ldcCH X u1 r4 r5 w wS r1 r2 r3 u3 hmem r6.1 ht hz (by rw [hl, List.length_map]) (g := mkF m pc Ls stk) rfl hd hq hbig hk hn
  exact Go.by st (go T' h' a ⟨u1, u2, u3, u4, T'.vm, k1, L, X', e', hS, hk1, hW, hf, r6.trans hC, fun x hx => ⟨Nat.lt_of_lt_of_le (r7 x hx).1 E.1, hC.safe (r7 x hx).1 (r7 x hx).2⟩, r8⟩ E ⟨b, kb, 0, _, _, g1, g3, g2, g4, Or.inl ⟨rfl, rfl, rfl, fun c hc => (hb c hc).2.1⟩, fun c hc => ⟨(hb c hc).1, (hb c hc).2.2⟩⟩ fun x hx => (hne x (hC.safe (r7 x hx).1 (r7 x hx).2)).1)
/-! casts -/
theorem Wk.castY {index : Nat} {K : String} (W : Wk p l e R s m args below meth c Z a0 EL own sf T h k n) (w : (Cond.classLink own index K).before a0 Z = true) (F : Ins Z h a K true) (hd : decode c.code pc = .ok (.checkcast index, 3))
    (go : ∀ T', Wk p l e R s m args below meth c Z a0 EL own sf T' h k n → Go p e below s Z EL rc rs Q (T'.setTop (mkF m (pc + 3) Ls (.ref a :: rest)))) : Go p e below s Z EL rc rs Q (T.setTop (mkF m pc Ls (.ref a :: rest))) := by
  obtain ⟨w1, w2, w3, w4, vm0, k0, L, X, r1, r2, r3, r4, r5, r⟩ := W
  obtain ⟨T', X', e', st⟩ := Jvm.RoadKit.castY X w1 r4 r5 w r1 F (g := mkF m pc Ls (.ref a :: rest)) rfl rfl hd
  exact Go.by st (go T' ⟨w1, w2, w3, w4, vm0, k0, L, X', e', r2, r3, r4, r5, r⟩)
theorem Wk.instY {index : Nat} {K : String} (W : Wk p l e R s m args below meth c Z a0 EL own sf T h k n) (w : (Cond.classLink own index K).before a0 Z = true) (F : Ins Z h a K true) (hd : decode c.code pc = .ok (.instanceof index, 3))
    (go : ∀ T', Wk p l e R s m args below meth c Z a0 EL own sf T' h k n → Go p e below s Z EL rc rs Q (T'.setTop (mkF m (pc + 3) Ls (.int 1 :: rest)))) : Go p e below s Z EL rc rs Q (T.setTop (mkF m pc Ls (.ref a :: rest))) := by
  obtain ⟨w1, w2, w3, w4, vm0, k0, L, X, r1, r2, r3, r4, r5, r⟩ := W
  obtain ⟨T', X', e', st⟩ := Jvm.RoadKit.instY X w1 r4 r5 w r1 F (g := mkF m pc Ls (.ref a :: rest)) rfl rfl hd
  exact Go.by st (go T' ⟨w1, w2, w3, w4, vm0, k0, L, X', e', r2, r3, r4, r5, r⟩)
theorem Wk.instNo {index : Nat} {K C : String} (W : Wk p l e R s m args below meth c Z a0 EL own sf T h k n) (w : (Cond.classLink own index K).before a0 Z = true) (E : Exa Z h a C) (F : ∃ c t, Z.vm.findClass C = some c ∧ Z.vm.findClass K = some t ∧ Z.vm.assignable c t = false) (hd : decode c.code pc = .ok (.instanceof index, 3))
    (go : ∀ T', Wk p l e R s m args below meth c Z a0 EL own sf T' h k n → Go p e below s Z EL rc rs Q (T'.setTop (mkF m (pc + 3) Ls (.int 0 :: rest)))) : Go p e below s Z EL rc rs Q (T.setTop (mkF m pc Ls (.ref a :: rest))) := by
  obtain ⟨w1, w2, w3, w4, vm0, k0, L, X, r1, r2, r3, r4, r5, r⟩ := W
  obtain ⟨T', X', e', st⟩ := Jvm.RoadKit.instNo X w1 r4 r5 w r1 E F (g := mkF m pc Ls (.ref a :: rest)) rfl rfl hd
  exact Go.by st (go T' ⟨w1, w2, w3, w4, vm0, k0, L, X', e', r2, r3, r4, r5, r⟩)
theorem Wk.instNull {index : Nat} (W : Wk p l e R s m args below meth c Z a0 EL own sf T h k n) (hd : decode c.code pc = .ok (.instanceof index, 3)) (go : Go p e below s Z EL rc rs Q (T.setTop (mkF m (pc + 3) Ls (.int 0 :: rest)))) : Go p e below s Z EL rc rs Q (T.setTop (mkF m pc Ls (.null :: rest))) := by
  obtain ⟨w1, w2, w3, w4, vm0, k0, L, X, r⟩ := W
  exact Go.by (X.instanceofNull w1 (g := mkF m pc Ls (.null :: rest)) rfl rfl hd) go
theorem Wk.castNull {index : Nat} (W : Wk p l e R s m args below meth c Z a0 EL own sf T h k n) (hd : decode c.code pc = .ok (.checkcast index, 3)) (go : Go p e below s Z EL rc rs Q (T.setTop (mkF m (pc + 3) Ls (.null :: rest)))) : Go p e below s Z EL rc rs Q (T.setTop (mkF m pc Ls (.null :: rest))) := by
  obtain ⟨w1, w2, w3, w4, vm0, k0, L, X, r⟩ := W
  exact Go.by (X.checkcastNull w1 (g := mkF m pc Ls (.null :: rest)) rfl rfl hd) go
/-! arrays -/
theorem Wk.alen {kA : ClassId} {ty : FieldType} {z : Int32} {vs : List Value} {dv : Value} (W : Wk p l e R s m args below meth c Z a0 EL own sf T h k n) (A : Arv Z h a kA ty z vs dv) (hd : decode c.code pc = .ok (.arraylength, 1)) (go : Go p e below s Z EL rc rs Q (T.setTop (mkF m (pc + 1) Ls (.int z :: rest)))) : Go p e below s Z EL rc rs Q (T.setTop (mkF m pc Ls (.ref a :: rest))) := by
  obtain ⟨w1, w2, w3, w4, vm0, k0, L, X, rfl, r2, r3, r4, r⟩ := W
  obtain ⟨cl, A1, -, S, N, -, -⟩ := A
  refine Go.by (X.arraylength w1 A1.1 (State.isArrayOf_alike (T := s.setVm vm0) r4.alike A1.2.1) (g := mkF m pc Ls (.ref a :: rest)) rfl rfl hd) ?_
  rw [len_of S N]; exact go
theorem inA {kA : ClassId} {ty : FieldType} {z j : Int32} {vs : List Value} {dv v : Value} (A : Arv Z h a kA ty z vs dv) (hj : ¬ j < 0 ∧ j < z) (hv : vs.getD j.toNatClampNeg dv = v) : ∃ cl : Cell, RoadKit.Arr Z h a cl ty ∧ ¬ (j < 0 ∨ cl.slots.size ≤ j.toNatClampNeg) ∧ cl.slots[j.toNatClampNeg]? = some v ∧ fits ty v = true := by
  obtain ⟨cl, A1, -, S, N, H, G⟩ := A
  have hi := inb_of S hj
  exact ⟨cl, A1, hi, H.at hi hv, hv ▸ G _ (Nat.lt_of_not_le fun y => hi (Or.inr y))⟩
theorem Wk.cald {kA : ClassId} {z j : Int32} {vs : List Value} {dv v : Value} (W : Wk p l e R s m args below meth c Z a0 EL own sf T h k n) (A : Arv Z h a kA .char z vs dv) (hj : ¬ j < 0 ∧ j < z) (hv : vs.getD j.toNatClampNeg dv = v) (hd : decode c.code pc = .ok (.caload, 1)) (go : Go p e below s Z EL rc rs Q (T.setTop (mkF m (pc + 1) Ls (v :: rest)))) : Go p e below s Z EL rc rs Q (T.setTop (mkF m pc Ls (.int j :: .ref a :: rest))) := by
  obtain ⟨w1, w2, w3, w4, vm0, k0, L, X, rfl, r2, r3, r4, r⟩ := W
  obtain ⟨cl, A1, hi, hat, -⟩ := inA A hj hv
  exact Go.by (X.caload w1 (j := j) (v := v) A1.1 (State.isArrayOf_alike (T := s.setVm vm0) r4.alike A1.2.1) A1.2.2 hi hat (g := mkF m pc Ls (.int j :: .ref a :: rest)) rfl rfl hd) go
theorem Wk.bald {kA : ClassId} {z j : Int32} {vs : List Value} {dv v : Value} (W : Wk p l e R s m args below meth c Z a0 EL own sf T h k n) (A : Arv Z h a kA .byte z vs dv) (hj : ¬ j < 0 ∧ j < z) (hv : vs.getD j.toNatClampNeg dv = v) (hd : decode c.code pc = .ok (.baload, 1)) (go : Go p e below s Z EL rc rs Q (T.setTop (mkF m (pc + 1) Ls (v :: rest)))) : Go p e below s Z EL rc rs Q (T.setTop (mkF m pc Ls (.int j :: .ref a :: rest))) := by
  obtain ⟨w1, w2, w3, w4, vm0, k0, L, X, rfl, r2, r3, r4, r⟩ := W
  obtain ⟨cl, A1, hi, hat, -⟩ := inA A hj hv
  exact Go.by (X.baloadBytes w1 (j := j) (v := v) A1.1 (State.isArrayOf_alike (T := s.setVm vm0) r4.alike A1.2.1) A1.2.2 hi hat (g := mkF m pc Ls (.int j :: .ref a :: rest)) rfl rfl hd) go
theorem Wk.aald {kA : ClassId} {ty : FieldType} {z j : Int32} {vs : List Value} {dv v : Value} (W : Wk p l e R s m args below meth c Z a0 EL own sf T h k n) (A : Arv Z h a kA ty z vs dv) (hty : ty.isReference = true) (hj : ¬ j < 0 ∧ j < z) (hv : vs.getD j.toNatClampNeg dv = v) (hd : decode c.code pc = .ok (.aaload, 1)) (go : Go p e below s Z EL rc rs Q (T.setTop (mkF m (pc + 1) Ls (v :: rest)))) : Go p e below s Z EL rc rs Q (T.setTop (mkF m pc Ls (.int j :: .ref a :: rest))) := by
  obtain ⟨w1, w2, w3, w4, vm0, k0, L, X, rfl, r2, r3, r4, r⟩ := W
  obtain ⟨cl, A1, hi, hat, -⟩ := inA A hj hv
  exact Go.by (X.aaload w1 (j := j) (v := v) A1.1 (State.isArrayOf_alike (T := s.setVm vm0) r4.alike A1.2.1) hty A1.2.2 hi hat (g := mkF m pc Ls (.int j :: .ref a :: rest)) rfl rfl hd) go
theorem Wk.cast_ {kA : ClassId} {z j v v' : Int32} {vs : List Value} {dv : Value} {i : Nat} (W : Wk p l e R s m args below meth c Z a0 EL own sf T h k n) (A : Arv Z h a kA .char z vs dv) (hj : ¬ j < 0 ∧ j < z) (hi : j.toNatClampNeg = i) (hlt : i < vs.length) (hv : nar .char v = v') (ha : Z.heap.size ≤ a) (hs : a ∈ sf) (hd : decode c.code pc = .ok (.castore, 1))
    (go : ∀ T' h', Wk p l e R s m args below meth c Z a0 EL own sf T' h' k n → Wr h h' a j.toNatClampNeg (.int v') → Arv Z h' a kA .char z (vs.set i (.int v')) dv → Go p e below s Z EL rc rs Q (T'.setTop (mkF m (pc + 1) Ls rest))) : Go p e below s Z EL rc rs Q (T.setTop (mkF m pc Ls (.int v :: .int j :: .ref a :: rest))) := by
  subst hv
  obtain ⟨w1, w2, w3, w4, vm0, k0, L, X, r1, r2, r3, r4, r5, r6, r7, r8⟩ := W
  obtain ⟨cl, A1, A2, S, N, H, G⟩ := A
  obtain ⟨T', h', X', e', W', st⟩ := stC X w1 r4 r1 A1 (j := j) (inb_of S hj) (g := mkF m pc Ls (.int v :: .int j :: .ref a :: rest)) rfl rfl hd
  exact Go.by st (go T' h' (Wk.wrote w1 w2 w3 w4 X' e' W' r2 r3 r4 r5 r6 r7 r8 ha hs) W' (Arv.set A1 A2 S N H G (fits_nar_char _) W' i hi hlt))
theorem Wk.bast {kA : ClassId} {z j v v' : Int32} {vs : List Value} {dv : Value} {i : Nat} (W : Wk p l e R s m args below meth c Z a0 EL own sf T h k n) (A : Arv Z h a kA .byte z vs dv) (hj : ¬ j < 0 ∧ j < z) (hi : j.toNatClampNeg = i) (hlt : i < vs.length) (hv : nar .byte v = v') (ha : Z.heap.size ≤ a) (hs : a ∈ sf) (hd : decode c.code pc = .ok (.bastore, 1))
    (go : ∀ T' h', Wk p l e R s m args below meth c Z a0 EL own sf T' h' k n → Wr h h' a j.toNatClampNeg (.int v') → Arv Z h' a kA .byte z (vs.set i (.int v')) dv → Go p e below s Z EL rc rs Q (T'.setTop (mkF m (pc + 1) Ls rest))) : Go p e below s Z EL rc rs Q (T.setTop (mkF m pc Ls (.int v :: .int j :: .ref a :: rest))) := by
  subst hv
  obtain ⟨w1, w2, w3, w4, vm0, k0, L, X, r1, r2, r3, r4, r5, r6, r7, r8⟩ := W
  obtain ⟨cl, A1, A2, S, N, H, G⟩ := A
  obtain ⟨T', h', X', e', W', st⟩ := stB X w1 r4 r1 A1 (j := j) (inb_of S hj) (g := mkF m pc Ls (.int v :: .int j :: .ref a :: rest)) rfl rfl hd
  exact Go.by st (go T' h' (Wk.wrote w1 w2 w3 w4 X' e' W' r2 r3 r4 r5 r6 r7 r8 ha hs) W' (Arv.set A1 A2 S N H G (fits_nar_byte _) W' i hi hlt))
theorem Wk.aast {kA : ClassId} {ty : FieldType} {z j : Int32} {v : Value} {vs : List Value} {dv : Value} {i : Nat} (W : Wk p l e R s m args below meth c Z a0 EL own sf T h k n) (A : Arv Z h a kA ty z vs dv) (hty : ty.isReference = true) (hj : ¬ j < 0 ∧ j < z) (hi : j.toNatClampNeg = i) (hlt : i < vs.length) (F : Sto Z h a v) (hv : fits ty v = true) (ha : Z.heap.size ≤ a) (hs : a ∈ sf) (hd : decode c.code pc = .ok (.aastore, 1))
    (go : ∀ T' h', Wk p l e R s m args below meth c Z a0 EL own sf T' h' k n → Wr h h' a j.toNatClampNeg v → Arv Z h' a kA ty z (vs.set i v) dv → Go p e below s Z EL rc rs Q (T'.setTop (mkF m (pc + 1) Ls rest))) : Go p e below s Z EL rc rs Q (T.setTop (mkF m pc Ls (v :: .int j :: .ref a :: rest))) := by
  obtain ⟨w1, w2, w3, w4, vm0, k0, L, X, r1, r2, r3, r4, r5, r6, r7, r8⟩ := W
  obtain ⟨cl, A1, A2, S, N, H, G⟩ := A
  obtain ⟨T', h', X', e', W', st⟩ := stR X w1 r4 r1 A1 (j := j) (inb_of S hj) hty F (g := mkF m pc Ls (v :: .int j :: .ref a :: rest)) rfl rfl hd
  exact Go.by st (go T' h' (Wk.wrote w1 w2 w3 w4 X' e' W' r2 r3 r4 r5 r6 r7 r8 ha hs) W' (Arv.set A1 A2 S N H G hv W' i hi hlt))
/-- a String at the start, by the sheet's words -/
theorem str_of {t : Term} (hf : Fit Z) (hx : (Cond.exactly t "java/lang/String").value args Z none Z [] = some true) (hcd : (Cond.eq (.field t "java/lang/String" "coder" "B") (.int 0)).value args Z none Z [] = some true) (hA : (Cond.arrayOf (.field t "java/lang/String" "value" "[B") .byte).value args Z none Z [] = some true) (hl : (Cond.eq (.length (.field t "java/lang/String" "value" "[B")) (.int (Int32.ofNat cs.length))).value args Z none Z [] = some true) (hn : cs.length < 2 ^ 31) (H : HasE args Z (.field t "java/lang/String" "value" "[B") 0 (cs.map fun c => Value.int (StrChars.lo8 c))) (hb : ∀ c ∈ cs, ¬ c < 0 ∧ ¬ (255 : Int32) < c ∧ ¬ (65535 : Int32) < c) : ∃ a, t.eval args Z none [] Z = some (.ref a) ∧ Str Z Z.heap a cs := by
  obtain ⟨a, ea⟩ := exa_v hx
  obtain ⟨b, eb⟩ := arr_v hA
  have ec := Cond.eq_int (Cond.before_iff.mpr hcd) rfl
  have el := Cond.eq_int (Cond.before_iff.mpr hl) rfl
  obtain ⟨kb, K⟩ := arv_of (dv := .int 0) hf eb hA el (by
    intro q
    rw [Int32.lt_iff_toInt_lt, Int32.toInt_ofNat_small hn] at q
    have e0 : (0 : Int32).toInt = 0 := rfl
    omega) (by rw [clampN hn, List.length_map]) (by rw [List.length_map]; exact hn) H
  exact ⟨a, ea, b, kb, 0, _, _, Exa.start ea hx, Fld.start (by rw [← fld_at ea]; exact eb), Fld.start (by rw [← fld_at ea]; exact ec), K, Or.inl ⟨rfl, rfl, rfl, fun c hc => (hb c hc).2.1⟩, fun c hc => ⟨(hb c hc).1, (hb c hc).2.2⟩⟩
end KitStr
section KitStrLen
variable {p : Program} {l : Launch} {e : Env} {R : Room} {s : State} {m : MethodId} {args : Array Value} {below : List Frame} {meth : Method} {c : Code} {Z : State} {a0 : Array Value} {EL : List (String × Nat)} {own : String} {sf : List Addr} {T : State} {h h' h0 : Heap} {k n k' n' rc rs pc : Nat} {Ls : Array Slot} {stk rest : List Value} {Q : Option Value → Heap → Prop} {a x y : Addr} {cs ds : List Int32}
theorem pdLen : parseMethodDescriptor "()I" = some ⟨[], some .int⟩ := by decide +kernel
/-- s.length() -/
theorem Wk.strLen {index Wt : Nat} {z : Int32} (W : Wk p l e R s m args below meth c Z a0 EL own sf T h k n) (hws : ∀ d ∈ StrChars.Road.wordsLen, d.before a0 Z = true) (wi : (Cond.instantiable "java/lang/String" 4).before a0 Z = true) (w1 : (Cond.methodLink own index ⟨"java/lang/String", "length", "()I"⟩).before a0 Z = true) (w2 : (Cond.declares ⟨"java/lang/String", "length", "()I"⟩).before a0 Z = true) (w3 : (Cond.selects "java/lang/String" ⟨"java/lang/String", "length", "()I"⟩ ⟨"java/lang/String", "length", "()I"⟩).before a0 Z = true) (w4 : (Cond.instanceMethod ⟨"java/lang/String", "length", "()I"⟩).before a0 Z = true)
    (S1 : Str Z h x cs) (l1 : cs.length ≤ 4000) (S : Sta Z h "java/lang/String" "COMPACT_STRINGS" "Z" (.int z)) (hz : ¬ z = 0) (hf : 2 ≤ R.frames) (hl : Wt + 25 ≤ R.locals) (hsz : Ls.size = c.maxLocals) (hW : (rest.map fun v => v.category).sum ≤ Wt) (hk : k ≤ R.cells) (hn : n ≤ R.slots) (hd : decode c.code pc = .ok (.invokevirtual index, 3))
    (go : ∀ T', Wk p l e R s m args below meth c Z a0 EL own sf T' h k n → Go p e below s Z EL rc rs Q (T'.setTop (mkF m (pc + 3) Ls (.int (Int32.ofNat cs.length) :: rest)))) : Go p e below s Z EL rc rs Q (T.setTop (mkF m pc Ls (.ref x :: rest))) := by
  obtain ⟨u1, u2, u3, u4, vm0, k0, L, X, rfl, r2, r3, r4, r5, r6, r7, r8⟩ := W
  obtain ⟨t, kb, cd, N2, vs, s1, s2, s3, s4, s5, s6⟩ := S1
  obtain ⟨cq, kq, qa, qb, qc⟩ := isOf (s := s.setVm vm0) (T := T) r4 rfl s1
  obtain ⟨v, vm₁, ⟨T', L', k1, n1⟩, -, X', ⟨Lc, hQ, l', y', z'⟩, st⟩ := X.virtualBack u1 (y := (⟨"java/lang/String", "length", "()I"⟩ : MethodName)) (z := (⟨"java/lang/String", "length", "()I"⟩ : MethodName)) r5 (mvT (s := s.setVm vm0) r4 w1) (mvT (s := s.setVm vm0) r4 w2) (notFace_of_selects (args := #[]) (mvT (s := s.setVm vm0) r4 w3)) (mvT (s := s.setVm vm0) r4 w3) (mvT (s := s.setVm vm0) r4 w4) (by decide)
    (StrChars.Road.lenW (W := Wt) (s := s.setVm vm0) r4 hws wi s1 s2 s3 s4 s5 s6 S hz l1 hf hl) qa qc (g := mkF m pc Ls (.ref x :: rest)) rfl hsz (Steps.refl _) (argsL := []) (rest := rest) (lenOf pdLen rfl) rfl (by show 2 * 0 + _ ≤ _; omega) hd (fun _ _ => ⟨rfl, rfl, hk, hn⟩)
  dsimp only [Pt.U, Pt.locs, Pt.cells, Pt.slots] at X' l' y' z' st hQ
  subst l' y' z'
  obtain ⟨rfl, rfl, e'⟩ := hQ
  rw [List.append_nil] at X'
  exact Go.of st (go T' ⟨u1, u2, u3, u4, vm0, k0, L, X', e', r2, r3, r4, r5, r6, r7, r8⟩)
end KitStrLen
theorem nar_i2c (x : Int32) : nar .char x.toUInt32.toUInt16.toUInt32.toInt32 = x.toUInt32.toUInt16.toUInt32.toInt32 := by
  have h1 := c_i2c x
  have h2 := c_i2c x.toUInt32.toUInt16.toUInt32.toInt32
  apply Int32.toInt_inj.mp
  show (x.toUInt32.toUInt16.toUInt32.toInt32.toUInt32.toUInt16.toUInt32.toInt32).toInt = _
  omega
theorem i2c_id {x : Int32} (h : ¬ x < 0 ∧ ¬ (65535 : Int32) < x) : x.toUInt32.toUInt16.toUInt32.toInt32 = x := by
  have h1 := c_i2c x
  apply Int32.toInt_inj.mp
  rw [Int32.lt_iff_toInt_lt, Int32.lt_iff_toInt_lt] at h
  have e : (65535 : Int32).toInt = 65535 := rfl
  have e0 : (0 : Int32).toInt = 0 := rfl
  omega
theorem nar_id {x : Int32} (h : ¬ x < 0 ∧ ¬ (65535 : Int32) < x) : nar .char x = x := i2c_id h
theorem up16 {x : Int32} (h : ¬ x < 0 ∧ ¬ (255 : Int32) < x) : ¬ x < 0 ∧ ¬ (65535 : Int32) < x := ⟨h.1, fun q => h.2 (by rw [Int32.lt_iff_toInt_lt] at q ⊢; have e1 : (65535 : Int32).toInt = 65535 := rfl; have e2 : (255 : Int32).toInt = 255 := rfl; omega)⟩
theorem i2c_rng (x : Int32) : ¬ x.toUInt32.toUInt16.toUInt32.toInt32 < 0 ∧ ¬ (65535 : Int32) < x.toUInt32.toUInt16.toUInt32.toInt32 := by
  have h1 := c_i2c x
  rw [Int32.lt_iff_toInt_lt, Int32.lt_iff_toInt_lt]
  have e : (65535 : Int32).toInt = 65535 := rfl
  have e0 : (0 : Int32).toInt = 0 := rfl
  omega
theorem and255 (x : Int32) : ¬ (x &&& (255 : Int32)) < 0 ∧ ¬ (255 : Int32) < (x &&& (255 : Int32)) := by
  have h := c_and x 255 (by decide)
  have e : (255 : Int32).toInt = 255 := rfl
  rw [Int32.lt_iff_toInt_lt, Int32.lt_iff_toInt_lt, e]
  have e0 : (0 : Int32).toInt = 0 := rfl
  omega
theorem k_mask (x : Int32) : ¬ (x &&& (255 : Int32)).toUInt32.toUInt16.toUInt32.toInt32 < 0 ∧ ¬ (255 : Int32) < (x &&& (255 : Int32)).toUInt32.toUInt16.toUInt32.toInt32 := by
  rw [i2c_mask]; exact and255 x
theorem k_nar (x : Int32) : nar .char (x &&& (255 : Int32)).toUInt32.toUInt16.toUInt32.toInt32 = (x &&& (255 : Int32)).toUInt32.toUInt16.toUInt32.toInt32 := nar_i2c _
theorem and3 (x : Int32) : x &&& (3 : Int32) = 0 ∨ x &&& (3 : Int32) = 1 ∨ x &&& (3 : Int32) = 2 ∨ x &&& (3 : Int32) = 3 := by
  have h := c_and x 3 (by decide)
  have e : (3 : Int32).toInt = 3 := rfl
  rcases (by omega : (x &&& (3 : Int32)).toInt = 0 ∨ (x &&& (3 : Int32)).toInt = 1 ∨ (x &&& (3 : Int32)).toInt = 2 ∨ (x &&& (3 : Int32)).toInt = 3) with q | q | q | q
  · exact Or.inl (Int32.toInt_inj.mp q)
  · exact Or.inr (Or.inl (Int32.toInt_inj.mp q))
  · exact Or.inr (Or.inr (Or.inl (Int32.toInt_inj.mp q)))
  · exact Or.inr (Or.inr (Or.inr (Int32.toInt_inj.mp q)))
theorem maskL255 (x : Int64) : ¬ (x &&& (255 : Int64)).toInt32.toUInt32.toUInt16.toUInt32.toInt32 < 0 ∧ ¬ (255 : Int32) < (x &&& (255 : Int64)).toInt32.toUInt32.toUInt16.toUInt32.toInt32 := by
  have h := c_maskL x 255 8 (by decide) (by decide)
  have h2 := c_l2i (x &&& (255 : Int64))
  have h3 := c_i2c (x &&& (255 : Int64)).toInt32
  have h4 := rng32 (x &&& (255 : Int64)).toInt32
  rw [Int32.lt_iff_toInt_lt, Int32.lt_iff_toInt_lt]
  have e : (255 : Int32).toInt = 255 := rfl
  have e0 : (0 : Int32).toInt = 0 := rfl
  have e8 : ((2 ^ 8 : Nat) : Int) = 256 := rfl
  omega
abbrev HW (Z : State) (a0 : Array Value) : Prop := ∀ d ∈ tables_1, d.before a0 Z = true
theorem k_sa {Z : State} {a0 : Array Value} (hw : ∀ d ∈ tables_1, d.before a0 Z = true) : ∀ a ∈ Bundle.stringAtoms, a.before a0 Z = true := fun d hd => hw d ((by decide +kernel : ∀ d ∈ Bundle.stringAtoms, d ∈ tables_1) d hd)
theorem k_words {Z : State} {a0 : Array Value} (hw : ∀ d ∈ tables_1, d.before a0 Z = true) : ∀ d ∈ StrChars.Road.words, d.before a0 Z = true := fun d hd => hw d ((by decide +kernel : ∀ d ∈ StrChars.Road.words, d ∈ tables_1) d hd)
theorem k_len {Z : State} {a0 : Array Value} (hw : ∀ d ∈ tables_1, d.before a0 Z = true) : ∀ d ∈ StrChars.Road.wordsLen, d.before a0 Z = true := fun d hd => hw d ((by decide +kernel : ∀ d ∈ StrChars.Road.wordsLen, d ∈ tables_1) d hd)
theorem sta_exa {args : Array Value} {Z : State} {C n d K : String} (hx : (Cond.exactly (.static C n d) K).value args Z none Z [] = some true) (hi : (Cond.initializedFor C n d).before args Z = true ∨ ((Cond.initialized C).before args Z = true ∧ (Cond.laysStatic C n d).before args Z = true)) : ∃ a, Sta Z Z.heap C n d (.ref a) ∧ Exa Z Z.heap a K ∧ (Term.static C n d).eval args Z none [] Z = some (.ref a) := by
  obtain ⟨a, c', cell, k, e1, -⟩ := Cond.exactly_spec (Cond.before_iff.mpr hx)
  exact ⟨a, Sta.start e1 hi, Exa.start e1 hx, e1⟩
theorem lo8_lo8 (z : Int32) : z.toInt8.toInt32.toInt8.toInt32 = z.toInt8.toInt32 := by simp
theorem wd0 {Z : State} {a0 : Array Value} (hw : HW Z a0) : (Jvm.Cond.methodLink "com/example/kontraktbuch/kontraktbuch/NotationIsDigitsPinLaw" (20 : Nat) ({ cls := "com/example/kontraktbuch/kontraktbuch/NotationIsDigitsPinLaw", name := "draw", desc := "(JII)C" } : Jvm.MethodName)).before a0 Z = true := hw _ (List.mem_of_getElem? (i := 0) rfl)
theorem wd1 {Z : State} {a0 : Array Value} (hw : HW Z a0) : (Jvm.Cond.static ({ cls := "com/example/kontraktbuch/kontraktbuch/NotationIsDigitsPinLaw", name := "draw", desc := "(JII)C" } : Jvm.MethodName)).before a0 Z = true := hw _ (List.mem_of_getElem? (i := 1) rfl)
theorem wd2 {Z : State} {a0 : Array Value} (hw : HW Z a0) : (Jvm.Cond.initialized "com/example/kontraktbuch/kontraktbuch/NotationIsDigitsPinLaw").before a0 Z = true := hw _ (List.mem_of_getElem? (i := 2) rfl)
theorem wd3 {Z : State} {a0 : Array Value} (hw : HW Z a0) : (Jvm.Cond.code ({ cls := "com/example/kontraktbuch/kontraktbuch/NotationIsDigitsPinLaw", name := "draw", desc := "(JII)C" } : Jvm.MethodName) method_2_code (5 : Nat) (Option.some Jvm.ClassFile.FieldType.char)).before a0 Z = true := hw _ (List.mem_of_getElem? (i := 3) rfl)
theorem wd4 {Z : State} {a0 : Array Value} (hw : HW Z a0) : (Jvm.Cond.constantLong "com/example/kontraktbuch/kontraktbuch/NotationIsDigitsPinLaw" (7 : Nat) (65535 : Int64)).before a0 Z = true := hw _ (List.mem_of_getElem? (i := 4) rfl)
theorem wd5 {Z : State} {a0 : Array Value} (hw : HW Z a0) : (Jvm.Cond.methodLink "com/example/kontraktbuch/kontraktbuch/NotationIsDigitsPinLaw" (24 : Nat) ({ cls := "com/example/kontraktbuch/kontraktbuch/NotationIsDigitsPinLaw", name := "make", desc := "(ICCCC)Ljava/lang/String;" } : Jvm.MethodName)).before a0 Z = true := hw _ (List.mem_of_getElem? (i := 5) rfl)
theorem wd6 {Z : State} {a0 : Array Value} (hw : HW Z a0) : (Jvm.Cond.static ({ cls := "com/example/kontraktbuch/kontraktbuch/NotationIsDigitsPinLaw", name := "make", desc := "(ICCCC)Ljava/lang/String;" } : Jvm.MethodName)).before a0 Z = true := hw _ (List.mem_of_getElem? (i := 6) rfl)
theorem wd7 {Z : State} {a0 : Array Value} (hw : HW Z a0) : (Jvm.Cond.code ({ cls := "com/example/kontraktbuch/kontraktbuch/NotationIsDigitsPinLaw", name := "make", desc := "(ICCCC)Ljava/lang/String;" } : Jvm.MethodName) method_5_code (5 : Nat) (Option.some (Jvm.ClassFile.FieldType.object "java/lang/String"))).before a0 Z = true := hw _ (List.mem_of_getElem? (i := 7) rfl)
theorem wd8 {Z : State} {a0 : Array Value} (hw : HW Z a0) : (Jvm.Cond.classLink "com/example/kontraktbuch/kontraktbuch/NotationIsDigitsPinLaw" (15 : Nat) "java/lang/String").before a0 Z = true := hw _ (List.mem_of_getElem? (i := 8) rfl)
theorem wd9 {Z : State} {a0 : Array Value} (hw : HW Z a0) : (Jvm.Cond.instantiable "java/lang/String" (4 : Nat)).before a0 Z = true := hw _ (List.mem_of_getElem? (i := 9) rfl)
theorem wd10 {Z : State} {a0 : Array Value} (hw : HW Z a0) : (Jvm.Cond.initialized "java/lang/String").before a0 Z = true := hw _ (List.mem_of_getElem? (i := 10) rfl)
theorem wd11 {Z : State} {a0 : Array Value} (hw : HW Z a0) : (Jvm.Cond.arrayClass Jvm.ClassFile.FieldType.char).before a0 Z = true := hw _ (List.mem_of_getElem? (i := 11) rfl)
theorem wd12 {Z : State} {a0 : Array Value} (hw : HW Z a0) : (Jvm.Cond.methodLink "com/example/kontraktbuch/kontraktbuch/NotationIsDigitsPinLaw" (17 : Nat) ({ cls := "java/lang/String", name := "<init>", desc := "([C)V" } : Jvm.MethodName)).before a0 Z = true := hw _ (List.mem_of_getElem? (i := 12) rfl)
theorem wd13 {Z : State} {a0 : Array Value} (hw : HW Z a0) : (Jvm.Cond.instanceMethod ({ cls := "java/lang/String", name := "<init>", desc := "([C)V" } : Jvm.MethodName)).before a0 Z = true := hw _ (List.mem_of_getElem? (i := 13) rfl)
theorem wd14 {Z : State} {a0 : Array Value} (hw : HW Z a0) : (Jvm.Cond.code ({ cls := "java/lang/String", name := "<init>", desc := "([C)V" } : Jvm.MethodName) jdk_42_method_3_code (2 : Nat) (Option.none : Option Jvm.ClassFile.FieldType)).before a0 Z = true := hw _ (List.mem_of_getElem? (i := 14) rfl)
theorem wd15 {Z : State} {a0 : Array Value} (hw : HW Z a0) : (Jvm.Cond.methodLink "java/lang/String" (27 : Nat) ({ cls := "java/lang/String", name := "<init>", desc := "([CIILjava/lang/Void;)V" } : Jvm.MethodName)).before a0 Z = true := hw _ (List.mem_of_getElem? (i := 15) rfl)
theorem wd16 {Z : State} {a0 : Array Value} (hw : HW Z a0) : (Jvm.Cond.instanceMethod ({ cls := "java/lang/String", name := "<init>", desc := "([CIILjava/lang/Void;)V" } : Jvm.MethodName)).before a0 Z = true := hw _ (List.mem_of_getElem? (i := 16) rfl)
theorem wd18 {Z : State} {a0 : Array Value} (hw : HW Z a0) : (Jvm.Cond.code ({ cls := "java/lang/String", name := "<init>", desc := "([CIILjava/lang/Void;)V" } : Jvm.MethodName) jdk_42_method_149_code (6 : Nat) (Option.none : Option Jvm.ClassFile.FieldType)).before a0 Z = true := hw _ (List.mem_of_getElem? (i := 18) rfl)
theorem wd19 {Z : State} {a0 : Array Value} (hw : HW Z a0) : (Jvm.Cond.methodLink "java/lang/String" (1 : Nat) ({ cls := "java/lang/Object", name := "<init>", desc := "()V" } : Jvm.MethodName)).before a0 Z = true := hw _ (List.mem_of_getElem? (i := 19) rfl)
theorem wd20 {Z : State} {a0 : Array Value} (hw : HW Z a0) : (Jvm.Cond.instanceMethod ({ cls := "java/lang/Object", name := "<init>", desc := "()V" } : Jvm.MethodName)).before a0 Z = true := hw _ (List.mem_of_getElem? (i := 20) rfl)
theorem wd21 {Z : State} {a0 : Array Value} (hw : HW Z a0) : (Jvm.Cond.code ({ cls := "java/lang/Object", name := "<init>", desc := "()V" } : Jvm.MethodName) object_method_1_code (1 : Nat) (Option.none : Option Jvm.ClassFile.FieldType)).before a0 Z = true := hw _ (List.mem_of_getElem? (i := 21) rfl)
theorem wd22 {Z : State} {a0 : Array Value} (hw : HW Z a0) : (Jvm.Cond.stringLink "java/lang/String" (7 : Nat) "").before a0 Z = true := hw _ (List.mem_of_getElem? (i := 22) rfl)
theorem wd23 {Z : State} {a0 : Array Value} (hw : HW Z a0) : (Jvm.Cond.arrayClass Jvm.ClassFile.FieldType.byte).before a0 Z = true := hw _ (List.mem_of_getElem? (i := 23) rfl)
theorem wd24 {Z : State} {a0 : Array Value} (hw : HW Z a0) : (Jvm.Cond.laysFinal "java/lang/String" "java/lang/String" "value" "[B").before a0 Z = true := hw _ (List.mem_of_getElem? (i := 24) rfl)
theorem wd25 {Z : State} {a0 : Array Value} (hw : HW Z a0) : (Jvm.Cond.laysFinal "java/lang/String" "java/lang/String" "coder" "B").before a0 Z = true := hw _ (List.mem_of_getElem? (i := 25) rfl)
theorem wd28 {Z : State} {a0 : Array Value} (hw : HW Z a0) : (Jvm.Cond.fieldLink "java/lang/String" (9 : Nat) "java/lang/String" "value" "[B").before a0 Z = true := hw _ (List.mem_of_getElem? (i := 28) rfl)
theorem wd29 {Z : State} {a0 : Array Value} (hw : HW Z a0) : (Jvm.Cond.fieldLink "java/lang/String" (15 : Nat) "java/lang/String" "coder" "B").before a0 Z = true := hw _ (List.mem_of_getElem? (i := 29) rfl)
theorem wd30 {Z : State} {a0 : Array Value} (hw : HW Z a0) : (Jvm.Cond.methodLink "com/example/kontraktbuch/kontraktbuch/NotationIsDigitsPinLaw" (33 : Nat) ({ cls := "com/example/kontraktbuch/kontraktbuch/Notation", name := "isDigits", desc := "(Ljava/lang/String;II)Z" } : Jvm.MethodName)).before a0 Z = true := hw _ (List.mem_of_getElem? (i := 30) rfl)
theorem wd31 {Z : State} {a0 : Array Value} (hw : HW Z a0) : (Jvm.Cond.static ({ cls := "com/example/kontraktbuch/kontraktbuch/Notation", name := "isDigits", desc := "(Ljava/lang/String;II)Z" } : Jvm.MethodName)).before a0 Z = true := hw _ (List.mem_of_getElem? (i := 31) rfl)
theorem wd32 {Z : State} {a0 : Array Value} (hw : HW Z a0) : (Jvm.Cond.initialized "com/example/kontraktbuch/kontraktbuch/Notation").before a0 Z = true := hw _ (List.mem_of_getElem? (i := 32) rfl)
theorem wd33 {Z : State} {a0 : Array Value} (hw : HW Z a0) : (Jvm.Cond.code ({ cls := "com/example/kontraktbuch/kontraktbuch/Notation", name := "isDigits", desc := "(Ljava/lang/String;II)Z" } : Jvm.MethodName) prog_29_method_10_code (5 : Nat) (Option.some Jvm.ClassFile.FieldType.boolean)).before a0 Z = true := hw _ (List.mem_of_getElem? (i := 33) rfl)
theorem wd34 {Z : State} {a0 : Array Value} (hw : HW Z a0) : (Jvm.Cond.fieldLink "java/lang/String" (38 : Nat) "java/lang/String" "COMPACT_STRINGS" "Z").before a0 Z = true := hw _ (List.mem_of_getElem? (i := 34) rfl)
theorem wd35 {Z : State} {a0 : Array Value} (hw : HW Z a0) : (Jvm.Cond.methodLink "java/lang/String" (177 : Nat) ({ cls := "java/lang/StringUTF16", name := "compress", desc := "([CII)[B" } : Jvm.MethodName)).before a0 Z = true := hw _ (List.mem_of_getElem? (i := 35) rfl)
theorem wd36 {Z : State} {a0 : Array Value} (hw : HW Z a0) : (Jvm.Cond.static ({ cls := "java/lang/StringUTF16", name := "compress", desc := "([CII)[B" } : Jvm.MethodName)).before a0 Z = true := hw _ (List.mem_of_getElem? (i := 36) rfl)
theorem wd37 {Z : State} {a0 : Array Value} (hw : HW Z a0) : (Jvm.Cond.initialized "java/lang/StringUTF16").before a0 Z = true := hw _ (List.mem_of_getElem? (i := 37) rfl)
theorem wd38 {Z : State} {a0 : Array Value} (hw : HW Z a0) : (Jvm.Cond.code ({ cls := "java/lang/StringUTF16", name := "compress", desc := "([CII)[B" } : Jvm.MethodName) jdk_52_method_16_code (6 : Nat) (Option.some (Jvm.ClassFile.FieldType.array Jvm.ClassFile.FieldType.byte))).before a0 Z = true := hw _ (List.mem_of_getElem? (i := 38) rfl)
theorem wd39 {Z : State} {a0 : Array Value} (hw : HW Z a0) : (Jvm.Cond.methodLink "java/lang/StringUTF16" (115 : Nat) ({ cls := "java/lang/StringUTF16", name := "compress", desc := "([CI[BII)I" } : Jvm.MethodName)).before a0 Z = true := hw _ (List.mem_of_getElem? (i := 39) rfl)
theorem wd40 {Z : State} {a0 : Array Value} (hw : HW Z a0) : (Jvm.Cond.static ({ cls := "java/lang/StringUTF16", name := "compress", desc := "([CI[BII)I" } : Jvm.MethodName)).before a0 Z = true := hw _ (List.mem_of_getElem? (i := 40) rfl)
theorem wd41 {Z : State} {a0 : Array Value} (hw : HW Z a0) : (Jvm.Cond.code ({ cls := "java/lang/StringUTF16", name := "compress", desc := "([CI[BII)I" } : Jvm.MethodName) jdk_52_method_21_code (7 : Nat) (Option.some Jvm.ClassFile.FieldType.int)).before a0 Z = true := hw _ (List.mem_of_getElem? (i := 41) rfl)
theorem wd42 {Z : State} {a0 : Array Value} (hw : HW Z a0) : (Jvm.Cond.methodLink "java/lang/String" (47 : Nat) ({ cls := "java/lang/StringUTF16", name := "coderFromArrayLen", desc := "([BI)B" } : Jvm.MethodName)).before a0 Z = true := hw _ (List.mem_of_getElem? (i := 42) rfl)
theorem wd43 {Z : State} {a0 : Array Value} (hw : HW Z a0) : (Jvm.Cond.static ({ cls := "java/lang/StringUTF16", name := "coderFromArrayLen", desc := "([BI)B" } : Jvm.MethodName)).before a0 Z = true := hw _ (List.mem_of_getElem? (i := 43) rfl)
theorem wd44 {Z : State} {a0 : Array Value} (hw : HW Z a0) : (Jvm.Cond.code ({ cls := "java/lang/StringUTF16", name := "coderFromArrayLen", desc := "([BI)B" } : Jvm.MethodName) jdk_52_method_15_code (2 : Nat) (Option.some Jvm.ClassFile.FieldType.byte)).before a0 Z = true := hw _ (List.mem_of_getElem? (i := 44) rfl)
theorem wd45 {Z : State} {a0 : Array Value} (hw : HW Z a0) : (Jvm.Cond.methodLink "java/lang/StringUTF16" (119 : Nat) ({ cls := "java/lang/StringUTF16", name := "toBytes", desc := "([CII)[B" } : Jvm.MethodName)).before a0 Z = true := hw _ (List.mem_of_getElem? (i := 45) rfl)
theorem wd46 {Z : State} {a0 : Array Value} (hw : HW Z a0) : (Jvm.Cond.static ({ cls := "java/lang/StringUTF16", name := "toBytes", desc := "([CII)[B" } : Jvm.MethodName)).before a0 Z = true := hw _ (List.mem_of_getElem? (i := 46) rfl)
theorem wd47 {Z : State} {a0 : Array Value} (hw : HW Z a0) : (Jvm.Cond.code ({ cls := "java/lang/StringUTF16", name := "toBytes", desc := "([CII)[B" } : Jvm.MethodName) jdk_52_method_14_code (5 : Nat) (Option.some (Jvm.ClassFile.FieldType.array Jvm.ClassFile.FieldType.byte))).before a0 Z = true := hw _ (List.mem_of_getElem? (i := 47) rfl)
theorem wd48 {Z : State} {a0 : Array Value} (hw : HW Z a0) : (Jvm.Cond.methodLink "java/lang/StringUTF16" (107 : Nat) ({ cls := "java/lang/StringUTF16", name := "newBytesFor", desc := "(I)[B" } : Jvm.MethodName)).before a0 Z = true := hw _ (List.mem_of_getElem? (i := 48) rfl)
theorem wd49 {Z : State} {a0 : Array Value} (hw : HW Z a0) : (Jvm.Cond.static ({ cls := "java/lang/StringUTF16", name := "newBytesFor", desc := "(I)[B" } : Jvm.MethodName)).before a0 Z = true := hw _ (List.mem_of_getElem? (i := 49) rfl)
theorem wd50 {Z : State} {a0 : Array Value} (hw : HW Z a0) : (Jvm.Cond.code ({ cls := "java/lang/StringUTF16", name := "newBytesFor", desc := "(I)[B" } : Jvm.MethodName) jdk_52_method_2_code (1 : Nat) (Option.some (Jvm.ClassFile.FieldType.array Jvm.ClassFile.FieldType.byte))).before a0 Z = true := hw _ (List.mem_of_getElem? (i := 50) rfl)
theorem wd51 {Z : State} {a0 : Array Value} (hw : HW Z a0) : (Jvm.Cond.methodLink "java/lang/StringUTF16" (11 : Nat) ({ cls := "java/lang/StringUTF16", name := "newBytesLength", desc := "(I)I" } : Jvm.MethodName)).before a0 Z = true := hw _ (List.mem_of_getElem? (i := 51) rfl)
theorem wd52 {Z : State} {a0 : Array Value} (hw : HW Z a0) : (Jvm.Cond.static ({ cls := "java/lang/StringUTF16", name := "newBytesLength", desc := "(I)I" } : Jvm.MethodName)).before a0 Z = true := hw _ (List.mem_of_getElem? (i := 52) rfl)
theorem wd53 {Z : State} {a0 : Array Value} (hw : HW Z a0) : (Jvm.Cond.code ({ cls := "java/lang/StringUTF16", name := "newBytesLength", desc := "(I)I" } : Jvm.MethodName) jdk_52_method_3_code (1 : Nat) (Option.some Jvm.ClassFile.FieldType.int)).before a0 Z = true := hw _ (List.mem_of_getElem? (i := 53) rfl)
theorem wd54 {Z : State} {a0 : Array Value} (hw : HW Z a0) : (Jvm.Cond.constant "java/lang/StringUTF16" (20 : Nat) (1073741823 : Int32)).before a0 Z = true := hw _ (List.mem_of_getElem? (i := 54) rfl)
theorem wd55 {Z : State} {a0 : Array Value} (hw : HW Z a0) : (Jvm.Cond.methodLink "java/lang/StringUTF16" (111 : Nat) ({ cls := "java/lang/StringUTF16", name := "putChar", desc := "([BII)V" } : Jvm.MethodName)).before a0 Z = true := hw _ (List.mem_of_getElem? (i := 55) rfl)
theorem wd56 {Z : State} {a0 : Array Value} (hw : HW Z a0) : (Jvm.Cond.static ({ cls := "java/lang/StringUTF16", name := "putChar", desc := "([BII)V" } : Jvm.MethodName)).before a0 Z = true := hw _ (List.mem_of_getElem? (i := 56) rfl)
theorem wd57 {Z : State} {a0 : Array Value} (hw : HW Z a0) : (Jvm.Cond.code ({ cls := "java/lang/StringUTF16", name := "putChar", desc := "([BII)V" } : Jvm.MethodName) jdk_52_method_4_code (3 : Nat) (Option.none : Option Jvm.ClassFile.FieldType)).before a0 Z = true := hw _ (List.mem_of_getElem? (i := 57) rfl)
theorem wd58 {Z : State} {a0 : Array Value} (hw : HW Z a0) : (Jvm.Cond.fieldLink "java/lang/StringUTF16" (44 : Nat) "java/lang/StringUTF16" "$assertionsDisabled" "Z").before a0 Z = true := hw _ (List.mem_of_getElem? (i := 58) rfl)
theorem wd59 {Z : State} {a0 : Array Value} (hw : HW Z a0) : (Jvm.Cond.fieldLink "java/lang/StringUTF16" (59 : Nat) "java/lang/StringUTF16" "HI_BYTE_SHIFT" "I").before a0 Z = true := hw _ (List.mem_of_getElem? (i := 59) rfl)
theorem wd60 {Z : State} {a0 : Array Value} (hw : HW Z a0) : (Jvm.Cond.fieldLink "java/lang/StringUTF16" (63 : Nat) "java/lang/StringUTF16" "LO_BYTE_SHIFT" "I").before a0 Z = true := hw _ (List.mem_of_getElem? (i := 60) rfl)
theorem wd61 {Z : State} {a0 : Array Value} (hw : HW Z a0) : (Jvm.Cond.methodLink "java/lang/StringUTF16" (71 : Nat) ({ cls := "java/lang/StringUTF16", name := "getChar", desc := "([BI)C" } : Jvm.MethodName)).before a0 Z = true := hw _ (List.mem_of_getElem? (i := 61) rfl)
theorem wd62 {Z : State} {a0 : Array Value} (hw : HW Z a0) : (Jvm.Cond.static ({ cls := "java/lang/StringUTF16", name := "getChar", desc := "([BI)C" } : Jvm.MethodName)).before a0 Z = true := hw _ (List.mem_of_getElem? (i := 62) rfl)
theorem wd63 {Z : State} {a0 : Array Value} (hw : HW Z a0) : (Jvm.Cond.code ({ cls := "java/lang/StringUTF16", name := "getChar", desc := "([BI)C" } : Jvm.MethodName) jdk_52_method_5_code (2 : Nat) (Option.some Jvm.ClassFile.FieldType.char)).before a0 Z = true := hw _ (List.mem_of_getElem? (i := 63) rfl)
theorem wd64 {Z : State} {a0 : Array Value} (hw : HW Z a0) : (Jvm.Cond.constant "com/example/kontraktbuch/kontraktbuch/NotationIsDigitsPinLaw" (28 : Nat) (2147483647 : Int32)).before a0 Z = true := hw _ (List.mem_of_getElem? (i := 64) rfl)
theorem wd65 {Z : State} {a0 : Array Value} (hw : HW Z a0) : (Jvm.Cond.methodLink "com/example/kontraktbuch/kontraktbuch/Notation" (7 : Nat) ({ cls := "java/lang/String", name := "length", desc := "()I" } : Jvm.MethodName)).before a0 Z = true := hw _ (List.mem_of_getElem? (i := 65) rfl)
theorem wd66 {Z : State} {a0 : Array Value} (hw : HW Z a0) : (Jvm.Cond.declares ({ cls := "java/lang/String", name := "length", desc := "()I" } : Jvm.MethodName)).before a0 Z = true := hw _ (List.mem_of_getElem? (i := 66) rfl)
theorem wd67 {Z : State} {a0 : Array Value} (hw : HW Z a0) : (Jvm.Cond.instanceMethod ({ cls := "java/lang/String", name := "length", desc := "()I" } : Jvm.MethodName)).before a0 Z = true := hw _ (List.mem_of_getElem? (i := 67) rfl)
theorem wd68 {Z : State} {a0 : Array Value} (hw : HW Z a0) : (Jvm.Cond.selects "java/lang/String" ({ cls := "java/lang/String", name := "length", desc := "()I" } : Jvm.MethodName) ({ cls := "java/lang/String", name := "length", desc := "()I" } : Jvm.MethodName)).before a0 Z = true := hw _ (List.mem_of_getElem? (i := 68) rfl)
theorem wd75 {Z : State} {a0 : Array Value} (hw : HW Z a0) : (Jvm.Cond.methodLink "com/example/kontraktbuch/kontraktbuch/NotationIsDigitsPinLaw" (29 : Nat) ({ cls := "com/example/kontraktbuch/kontraktbuch/NotationIsDigitsPinLaw", name := "fine", desc := "(CIII)Z" } : Jvm.MethodName)).before a0 Z = true := hw _ (List.mem_of_getElem? (i := 75) rfl)
theorem wd76 {Z : State} {a0 : Array Value} (hw : HW Z a0) : (Jvm.Cond.static ({ cls := "com/example/kontraktbuch/kontraktbuch/NotationIsDigitsPinLaw", name := "fine", desc := "(CIII)Z" } : Jvm.MethodName)).before a0 Z = true := hw _ (List.mem_of_getElem? (i := 76) rfl)
theorem wd77 {Z : State} {a0 : Array Value} (hw : HW Z a0) : (Jvm.Cond.code ({ cls := "com/example/kontraktbuch/kontraktbuch/NotationIsDigitsPinLaw", name := "fine", desc := "(CIII)Z" } : Jvm.MethodName) method_4_code (4 : Nat) (Option.some Jvm.ClassFile.FieldType.boolean)).before a0 Z = true := hw _ (List.mem_of_getElem? (i := 77) rfl)
theorem wd78 {Z : State} {a0 : Array Value} (hw : HW Z a0) : (Jvm.Cond.methodLink "com/example/kontraktbuch/kontraktbuch/NotationIsDigitsPinLaw" (9 : Nat) ({ cls := "com/example/kontraktbuch/kontraktbuch/NotationIsDigitsPinLaw", name := "asciiDigit", desc := "(C)Z" } : Jvm.MethodName)).before a0 Z = true := hw _ (List.mem_of_getElem? (i := 78) rfl)
theorem wd79 {Z : State} {a0 : Array Value} (hw : HW Z a0) : (Jvm.Cond.static ({ cls := "com/example/kontraktbuch/kontraktbuch/NotationIsDigitsPinLaw", name := "asciiDigit", desc := "(C)Z" } : Jvm.MethodName)).before a0 Z = true := hw _ (List.mem_of_getElem? (i := 79) rfl)
theorem wd80 {Z : State} {a0 : Array Value} (hw : HW Z a0) : (Jvm.Cond.code ({ cls := "com/example/kontraktbuch/kontraktbuch/NotationIsDigitsPinLaw", name := "asciiDigit", desc := "(C)Z" } : Jvm.MethodName) method_3_code (1 : Nat) (Option.some Jvm.ClassFile.FieldType.boolean)).before a0 Z = true := hw _ (List.mem_of_getElem? (i := 80) rfl)
theorem wd81 {Z : State} {a0 : Array Value} (hw : HW Z a0) : (Jvm.Cond.methodLink "com/example/kontraktbuch/kontraktbuch/Notation" (19 : Nat) ({ cls := "java/lang/String", name := "charAt", desc := "(I)C" } : Jvm.MethodName)).before a0 Z = true := hw _ (List.mem_of_getElem? (i := 81) rfl)
theorem wd82 {Z : State} {a0 : Array Value} (hw : HW Z a0) : (Jvm.Cond.declares ({ cls := "java/lang/String", name := "charAt", desc := "(I)C" } : Jvm.MethodName)).before a0 Z = true := hw _ (List.mem_of_getElem? (i := 82) rfl)
theorem wd83 {Z : State} {a0 : Array Value} (hw : HW Z a0) : (Jvm.Cond.instanceMethod ({ cls := "java/lang/String", name := "charAt", desc := "(I)C" } : Jvm.MethodName)).before a0 Z = true := hw _ (List.mem_of_getElem? (i := 83) rfl)
theorem wd84 {Z : State} {a0 : Array Value} (hw : HW Z a0) : (Jvm.Cond.selects "java/lang/String" ({ cls := "java/lang/String", name := "charAt", desc := "(I)C" } : Jvm.MethodName) ({ cls := "java/lang/String", name := "charAt", desc := "(I)C" } : Jvm.MethodName)).before a0 Z = true := hw _ (List.mem_of_getElem? (i := 84) rfl)
theorem wd85 {Z : State} {a0 : Array Value} (hw : HW Z a0) : (Jvm.Cond.code ({ cls := "java/lang/String", name := "charAt", desc := "(I)C" } : Jvm.MethodName) jdk_42_method_56_code (2 : Nat) (Option.some Jvm.ClassFile.FieldType.char)).before a0 Z = true := hw _ (List.mem_of_getElem? (i := 85) rfl)
theorem wd86 {Z : State} {a0 : Array Value} (hw : HW Z a0) : (Jvm.Cond.methodLink "java/lang/String" (492 : Nat) ({ cls := "java/lang/String", name := "isLatin1", desc := "()Z" } : Jvm.MethodName)).before a0 Z = true := hw _ (List.mem_of_getElem? (i := 86) rfl)
theorem wd87 {Z : State} {a0 : Array Value} (hw : HW Z a0) : (Jvm.Cond.declares ({ cls := "java/lang/String", name := "isLatin1", desc := "()Z" } : Jvm.MethodName)).before a0 Z = true := hw _ (List.mem_of_getElem? (i := 87) rfl)
theorem wd88 {Z : State} {a0 : Array Value} (hw : HW Z a0) : (Jvm.Cond.instanceMethod ({ cls := "java/lang/String", name := "isLatin1", desc := "()Z" } : Jvm.MethodName)).before a0 Z = true := hw _ (List.mem_of_getElem? (i := 88) rfl)
theorem wd89 {Z : State} {a0 : Array Value} (hw : HW Z a0) : (Jvm.Cond.selects "java/lang/String" ({ cls := "java/lang/String", name := "isLatin1", desc := "()Z" } : Jvm.MethodName) ({ cls := "java/lang/String", name := "isLatin1", desc := "()Z" } : Jvm.MethodName)).before a0 Z = true := hw _ (List.mem_of_getElem? (i := 89) rfl)
theorem wd90 {Z : State} {a0 : Array Value} (hw : HW Z a0) : (Jvm.Cond.code ({ cls := "java/lang/String", name := "isLatin1", desc := "()Z" } : Jvm.MethodName) jdk_42_method_154_code (1 : Nat) (Option.some Jvm.ClassFile.FieldType.boolean)).before a0 Z = true := hw _ (List.mem_of_getElem? (i := 90) rfl)
theorem wd91 {Z : State} {a0 : Array Value} (hw : HW Z a0) : (Jvm.Cond.methodLink "java/lang/String" (498 : Nat) ({ cls := "java/lang/StringUTF16", name := "charAt", desc := "([BI)C" } : Jvm.MethodName)).before a0 Z = true := hw _ (List.mem_of_getElem? (i := 91) rfl)
theorem wd92 {Z : State} {a0 : Array Value} (hw : HW Z a0) : (Jvm.Cond.static ({ cls := "java/lang/StringUTF16", name := "charAt", desc := "([BI)C" } : Jvm.MethodName)).before a0 Z = true := hw _ (List.mem_of_getElem? (i := 92) rfl)
theorem wd93 {Z : State} {a0 : Array Value} (hw : HW Z a0) : (Jvm.Cond.code ({ cls := "java/lang/StringUTF16", name := "charAt", desc := "([BI)C" } : Jvm.MethodName) jdk_52_method_83_code (2 : Nat) (Option.some Jvm.ClassFile.FieldType.char)).before a0 Z = true := hw _ (List.mem_of_getElem? (i := 93) rfl)
theorem wd94 {Z : State} {a0 : Array Value} (hw : HW Z a0) : (Jvm.Cond.methodLink "java/lang/StringUTF16" (67 : Nat) ({ cls := "java/lang/StringUTF16", name := "checkIndex", desc := "(I[B)V" } : Jvm.MethodName)).before a0 Z = true := hw _ (List.mem_of_getElem? (i := 94) rfl)
theorem wd95 {Z : State} {a0 : Array Value} (hw : HW Z a0) : (Jvm.Cond.static ({ cls := "java/lang/StringUTF16", name := "checkIndex", desc := "(I[B)V" } : Jvm.MethodName)).before a0 Z = true := hw _ (List.mem_of_getElem? (i := 95) rfl)
theorem wd96 {Z : State} {a0 : Array Value} (hw : HW Z a0) : (Jvm.Cond.code ({ cls := "java/lang/StringUTF16", name := "checkIndex", desc := "(I[B)V" } : Jvm.MethodName) jdk_52_method_91_code (2 : Nat) (Option.none : Option Jvm.ClassFile.FieldType)).before a0 Z = true := hw _ (List.mem_of_getElem? (i := 96) rfl)
theorem wd97 {Z : State} {a0 : Array Value} (hw : HW Z a0) : (Jvm.Cond.methodLink "java/lang/StringUTF16" (48 : Nat) ({ cls := "java/lang/StringUTF16", name := "length", desc := "([B)I" } : Jvm.MethodName)).before a0 Z = true := hw _ (List.mem_of_getElem? (i := 97) rfl)
theorem wd98 {Z : State} {a0 : Array Value} (hw : HW Z a0) : (Jvm.Cond.static ({ cls := "java/lang/StringUTF16", name := "length", desc := "([B)I" } : Jvm.MethodName)).before a0 Z = true := hw _ (List.mem_of_getElem? (i := 98) rfl)
theorem wd99 {Z : State} {a0 : Array Value} (hw : HW Z a0) : (Jvm.Cond.code ({ cls := "java/lang/StringUTF16", name := "length", desc := "([B)I" } : Jvm.MethodName) jdk_52_method_6_code (1 : Nat) (Option.some Jvm.ClassFile.FieldType.int)).before a0 Z = true := hw _ (List.mem_of_getElem? (i := 99) rfl)
theorem wd100 {Z : State} {a0 : Array Value} (hw : HW Z a0) : (Jvm.Cond.methodLink "java/lang/StringUTF16" (414 : Nat) ({ cls := "java/lang/String", name := "checkIndex", desc := "(II)V" } : Jvm.MethodName)).before a0 Z = true := hw _ (List.mem_of_getElem? (i := 100) rfl)
theorem wd101 {Z : State} {a0 : Array Value} (hw : HW Z a0) : (Jvm.Cond.static ({ cls := "java/lang/String", name := "checkIndex", desc := "(II)V" } : Jvm.MethodName)).before a0 Z = true := hw _ (List.mem_of_getElem? (i := 101) rfl)
theorem wd102 {Z : State} {a0 : Array Value} (hw : HW Z a0) : (Jvm.Cond.code ({ cls := "java/lang/String", name := "checkIndex", desc := "(II)V" } : Jvm.MethodName) jdk_42_method_155_code (2 : Nat) (Option.none : Option Jvm.ClassFile.FieldType)).before a0 Z = true := hw _ (List.mem_of_getElem? (i := 102) rfl)
theorem wd103 {Z : State} {a0 : Array Value} (hw : HW Z a0) : (Jvm.Cond.fieldLink "java/lang/String" (1053 : Nat) "jdk/internal/util/Preconditions" "SIOOBE_FORMATTER" "Ljava/util/function/BiFunction;").before a0 Z = true := hw _ (List.mem_of_getElem? (i := 103) rfl)
theorem wd104 {Z : State} {a0 : Array Value} (hw : HW Z a0) : (Jvm.Cond.initialized "jdk/internal/util/Preconditions").before a0 Z = true := hw _ (List.mem_of_getElem? (i := 104) rfl)
theorem wd105 {Z : State} {a0 : Array Value} (hw : HW Z a0) : (Jvm.Cond.methodLink "java/lang/String" (1059 : Nat) ({ cls := "jdk/internal/util/Preconditions", name := "checkIndex", desc := "(IILjava/util/function/BiFunction;)I" } : Jvm.MethodName)).before a0 Z = true := hw _ (List.mem_of_getElem? (i := 105) rfl)
theorem wd106 {Z : State} {a0 : Array Value} (hw : HW Z a0) : (Jvm.Cond.static ({ cls := "jdk/internal/util/Preconditions", name := "checkIndex", desc := "(IILjava/util/function/BiFunction;)I" } : Jvm.MethodName)).before a0 Z = true := hw _ (List.mem_of_getElem? (i := 106) rfl)
theorem wd107 {Z : State} {a0 : Array Value} (hw : HW Z a0) : (Jvm.Cond.code ({ cls := "jdk/internal/util/Preconditions", name := "checkIndex", desc := "(IILjava/util/function/BiFunction;)I" } : Jvm.MethodName) jdk_41_method_11_code (3 : Nat) (Option.some Jvm.ClassFile.FieldType.int)).before a0 Z = true := hw _ (List.mem_of_getElem? (i := 107) rfl)
theorem wd108 {Z : State} {a0 : Array Value} (hw : HW Z a0) : (Jvm.Cond.methodLink "java/lang/String" (495 : Nat) ({ cls := "java/lang/StringLatin1", name := "charAt", desc := "([BI)C" } : Jvm.MethodName)).before a0 Z = true := hw _ (List.mem_of_getElem? (i := 108) rfl)
theorem wd109 {Z : State} {a0 : Array Value} (hw : HW Z a0) : (Jvm.Cond.static ({ cls := "java/lang/StringLatin1", name := "charAt", desc := "([BI)C" } : Jvm.MethodName)).before a0 Z = true := hw _ (List.mem_of_getElem? (i := 109) rfl)
theorem wd110 {Z : State} {a0 : Array Value} (hw : HW Z a0) : (Jvm.Cond.initialized "java/lang/StringLatin1").before a0 Z = true := hw _ (List.mem_of_getElem? (i := 110) rfl)
theorem wd111 {Z : State} {a0 : Array Value} (hw : HW Z a0) : (Jvm.Cond.code ({ cls := "java/lang/StringLatin1", name := "charAt", desc := "([BI)C" } : Jvm.MethodName) jdk_43_method_2_code (2 : Nat) (Option.some Jvm.ClassFile.FieldType.char)).before a0 Z = true := hw _ (List.mem_of_getElem? (i := 111) rfl)
theorem wd112 {Z : State} {a0 : Array Value} (hw : HW Z a0) : (Jvm.Cond.methodLink "java/lang/StringLatin1" (9 : Nat) ({ cls := "java/lang/String", name := "checkIndex", desc := "(II)V" } : Jvm.MethodName)).before a0 Z = true := hw _ (List.mem_of_getElem? (i := 112) rfl)
theorem dc0_0 : decode jdk_42_method_149_code 0 = .ok (.aload_n 0, 1) := by decide +kernel
theorem dc0_1 : decode jdk_42_method_149_code 1 = .ok (.invokespecial 1, 3) := by decide +kernel
theorem dc0_4 : decode jdk_42_method_149_code 4 = .ok (.iload_n 3, 1) := by decide +kernel
theorem dc0_5 : decode jdk_42_method_149_code 5 = .ok (.ifCond .ne 22, 3) := by decide +kernel
theorem dc0_8 : decode jdk_42_method_149_code 8 = .ok (.aload_n 0, 1) := by decide +kernel
theorem dc0_9 : decode jdk_42_method_149_code 9 = .ok (.ldc 7, 2) := by decide +kernel
theorem dc0_11 : decode jdk_42_method_149_code 11 = .ok (.getfield 9, 3) := by decide +kernel
theorem dc0_14 : decode jdk_42_method_149_code 14 = .ok (.putfield 9, 3) := by decide +kernel
theorem dc0_17 : decode jdk_42_method_149_code 17 = .ok (.aload_n 0, 1) := by decide +kernel
theorem dc0_18 : decode jdk_42_method_149_code 18 = .ok (.ldc 7, 2) := by decide +kernel
theorem dc0_20 : decode jdk_42_method_149_code 20 = .ok (.getfield 15, 3) := by decide +kernel
theorem dc0_23 : decode jdk_42_method_149_code 23 = .ok (.putfield 15, 3) := by decide +kernel
theorem dc0_26 : decode jdk_42_method_149_code 26 = .ok (.return_, 1) := by decide +kernel
theorem dc1_0 : decode jdk_42_method_3_code 0 = .ok (.aload_n 0, 1) := by decide +kernel
theorem dc1_1 : decode jdk_42_method_3_code 1 = .ok (.aload_n 1, 1) := by decide +kernel
theorem dc1_2 : decode jdk_42_method_3_code 2 = .ok (.iconst 0, 1) := by decide +kernel
theorem dc1_3 : decode jdk_42_method_3_code 3 = .ok (.aload_n 1, 1) := by decide +kernel
theorem dc1_4 : decode jdk_42_method_3_code 4 = .ok (.arraylength, 1) := by decide +kernel
theorem dc1_5 : decode jdk_42_method_3_code 5 = .ok (.aconst_null, 1) := by decide +kernel
theorem dc1_6 : decode jdk_42_method_3_code 6 = .ok (.invokespecial 27, 3) := by decide +kernel
theorem dc1_9 : decode jdk_42_method_3_code 9 = .ok (.return_, 1) := by decide +kernel
theorem dc2_0 : decode jdk_52_method_3_code 0 = .ok (.iload_n 0, 1) := by decide +kernel
theorem dc2_1 : decode jdk_52_method_3_code 1 = .ok (.ifCond .ge 11, 3) := by decide +kernel
theorem dc2_12 : decode jdk_52_method_3_code 12 = .ok (.iload_n 0, 1) := by decide +kernel
theorem dc2_13 : decode jdk_52_method_3_code 13 = .ok (.ldc 20, 2) := by decide +kernel
theorem dc2_15 : decode jdk_52_method_3_code 15 = .ok (.if_icmp .lt 40, 3) := by decide +kernel
theorem dc2_55 : decode jdk_52_method_3_code 55 = .ok (.iload_n 0, 1) := by decide +kernel
theorem dc2_56 : decode jdk_52_method_3_code 56 = .ok (.iconst 1, 1) := by decide +kernel
theorem dc2_57 : decode jdk_52_method_3_code 57 = .ok (.ishl, 1) := by decide +kernel
theorem dc2_58 : decode jdk_52_method_3_code 58 = .ok (.ireturn, 1) := by decide +kernel
theorem dc3_0 : decode jdk_52_method_2_code 0 = .ok (.iload_n 0, 1) := by decide +kernel
theorem dc3_1 : decode jdk_52_method_2_code 1 = .ok (.invokestatic 11, 3) := by decide +kernel
theorem dc3_4 : decode jdk_52_method_2_code 4 = .ok (.newarray .byte, 2) := by decide +kernel
theorem dc3_6 : decode jdk_52_method_2_code 6 = .ok (.areturn, 1) := by decide +kernel
theorem dc4_0 : decode jdk_52_method_4_code 0 = .ok (.getstatic 44, 3) := by decide +kernel
theorem dc4_3 : decode jdk_52_method_4_code 3 = .ok (.ifCond .ne 25, 3) := by decide +kernel
theorem dc4_28 : decode jdk_52_method_4_code 28 = .ok (.iload_n 1, 1) := by decide +kernel
theorem dc4_29 : decode jdk_52_method_4_code 29 = .ok (.iconst 1, 1) := by decide +kernel
theorem dc4_30 : decode jdk_52_method_4_code 30 = .ok (.ishl, 1) := by decide +kernel
theorem dc4_31 : decode jdk_52_method_4_code 31 = .ok (.istore_n 1, 1) := by decide +kernel
theorem dc4_32 : decode jdk_52_method_4_code 32 = .ok (.aload_n 0, 1) := by decide +kernel
theorem dc4_33 : decode jdk_52_method_4_code 33 = .ok (.iload_n 1, 1) := by decide +kernel
theorem dc4_34 : decode jdk_52_method_4_code 34 = .ok (.iinc 1 1, 3) := by decide +kernel
theorem dc4_37 : decode jdk_52_method_4_code 37 = .ok (.iload_n 2, 1) := by decide +kernel
theorem dc4_38 : decode jdk_52_method_4_code 38 = .ok (.getstatic 59, 3) := by decide +kernel
theorem dc4_41 : decode jdk_52_method_4_code 41 = .ok (.ishr, 1) := by decide +kernel
theorem dc4_42 : decode jdk_52_method_4_code 42 = .ok (.i2b, 1) := by decide +kernel
theorem dc4_43 : decode jdk_52_method_4_code 43 = .ok (.bastore, 1) := by decide +kernel
theorem dc4_44 : decode jdk_52_method_4_code 44 = .ok (.aload_n 0, 1) := by decide +kernel
theorem dc4_45 : decode jdk_52_method_4_code 45 = .ok (.iload_n 1, 1) := by decide +kernel
theorem dc4_46 : decode jdk_52_method_4_code 46 = .ok (.iload_n 2, 1) := by decide +kernel
theorem dc4_47 : decode jdk_52_method_4_code 47 = .ok (.getstatic 63, 3) := by decide +kernel
theorem dc4_50 : decode jdk_52_method_4_code 50 = .ok (.ishr, 1) := by decide +kernel
theorem dc4_51 : decode jdk_52_method_4_code 51 = .ok (.i2b, 1) := by decide +kernel
theorem dc4_52 : decode jdk_52_method_4_code 52 = .ok (.bastore, 1) := by decide +kernel
theorem dc4_53 : decode jdk_52_method_4_code 53 = .ok (.return_, 1) := by decide +kernel
theorem dc5_0 : decode jdk_52_method_5_code 0 = .ok (.getstatic 44, 3) := by decide +kernel
theorem dc5_3 : decode jdk_52_method_5_code 3 = .ok (.ifCond .ne 25, 3) := by decide +kernel
theorem dc5_28 : decode jdk_52_method_5_code 28 = .ok (.iload_n 1, 1) := by decide +kernel
theorem dc5_29 : decode jdk_52_method_5_code 29 = .ok (.iconst 1, 1) := by decide +kernel
theorem dc5_30 : decode jdk_52_method_5_code 30 = .ok (.ishl, 1) := by decide +kernel
theorem dc5_31 : decode jdk_52_method_5_code 31 = .ok (.istore_n 1, 1) := by decide +kernel
theorem dc5_32 : decode jdk_52_method_5_code 32 = .ok (.aload_n 0, 1) := by decide +kernel
theorem dc5_33 : decode jdk_52_method_5_code 33 = .ok (.iload_n 1, 1) := by decide +kernel
theorem dc5_34 : decode jdk_52_method_5_code 34 = .ok (.iinc 1 1, 3) := by decide +kernel
theorem dc5_37 : decode jdk_52_method_5_code 37 = .ok (.baload, 1) := by decide +kernel
theorem dc5_38 : decode jdk_52_method_5_code 38 = .ok (.sipush 255, 3) := by decide +kernel
theorem dc5_41 : decode jdk_52_method_5_code 41 = .ok (.iand, 1) := by decide +kernel
theorem dc5_42 : decode jdk_52_method_5_code 42 = .ok (.getstatic 59, 3) := by decide +kernel
theorem dc5_45 : decode jdk_52_method_5_code 45 = .ok (.ishl, 1) := by decide +kernel
theorem dc5_46 : decode jdk_52_method_5_code 46 = .ok (.aload_n 0, 1) := by decide +kernel
theorem dc5_47 : decode jdk_52_method_5_code 47 = .ok (.iload_n 1, 1) := by decide +kernel
theorem dc5_48 : decode jdk_52_method_5_code 48 = .ok (.baload, 1) := by decide +kernel
theorem dc5_49 : decode jdk_52_method_5_code 49 = .ok (.sipush 255, 3) := by decide +kernel
theorem dc5_52 : decode jdk_52_method_5_code 52 = .ok (.iand, 1) := by decide +kernel
theorem dc5_53 : decode jdk_52_method_5_code 53 = .ok (.getstatic 63, 3) := by decide +kernel
theorem dc5_56 : decode jdk_52_method_5_code 56 = .ok (.ishl, 1) := by decide +kernel
theorem dc5_57 : decode jdk_52_method_5_code 57 = .ok (.ior, 1) := by decide +kernel
theorem dc5_58 : decode jdk_52_method_5_code 58 = .ok (.i2c, 1) := by decide +kernel
theorem dc5_59 : decode jdk_52_method_5_code 59 = .ok (.ireturn, 1) := by decide +kernel
theorem dc6_0 : decode jdk_52_method_14_code 0 = .ok (.iload_n 2, 1) := by decide +kernel
theorem dc6_1 : decode jdk_52_method_14_code 1 = .ok (.invokestatic 107, 3) := by decide +kernel
theorem dc6_4 : decode jdk_52_method_14_code 4 = .ok (.astore_n 3, 1) := by decide +kernel
theorem dc6_5 : decode jdk_52_method_14_code 5 = .ok (.iconst 0, 1) := by decide +kernel
theorem dc6_6 : decode jdk_52_method_14_code 6 = .ok (.istore 4, 2) := by decide +kernel
theorem dc6_8 : decode jdk_52_method_14_code 8 = .ok (.iload 4, 2) := by decide +kernel
theorem dc6_10 : decode jdk_52_method_14_code 10 = .ok (.iload_n 2, 1) := by decide +kernel
theorem dc6_11 : decode jdk_52_method_14_code 11 = .ok (.if_icmp .ge 21, 3) := by decide +kernel
theorem dc6_14 : decode jdk_52_method_14_code 14 = .ok (.aload_n 3, 1) := by decide +kernel
theorem dc6_15 : decode jdk_52_method_14_code 15 = .ok (.iload 4, 2) := by decide +kernel
theorem dc6_17 : decode jdk_52_method_14_code 17 = .ok (.aload_n 0, 1) := by decide +kernel
theorem dc6_18 : decode jdk_52_method_14_code 18 = .ok (.iload_n 1, 1) := by decide +kernel
theorem dc6_19 : decode jdk_52_method_14_code 19 = .ok (.caload, 1) := by decide +kernel
theorem dc6_20 : decode jdk_52_method_14_code 20 = .ok (.invokestatic 111, 3) := by decide +kernel
theorem dc6_23 : decode jdk_52_method_14_code 23 = .ok (.iinc 1 1, 3) := by decide +kernel
theorem dc6_26 : decode jdk_52_method_14_code 26 = .ok (.iinc 4 1, 3) := by decide +kernel
theorem dc6_29 : decode jdk_52_method_14_code 29 = .ok (.goto (-21), 3) := by decide +kernel
theorem dc6_32 : decode jdk_52_method_14_code 32 = .ok (.aload_n 3, 1) := by decide +kernel
theorem dc6_33 : decode jdk_52_method_14_code 33 = .ok (.areturn, 1) := by decide +kernel
theorem dc7_0 : decode jdk_52_method_21_code 0 = .ok (.iconst 0, 1) := by decide +kernel
theorem dc7_1 : decode jdk_52_method_21_code 1 = .ok (.istore 5, 2) := by decide +kernel
theorem dc7_3 : decode jdk_52_method_21_code 3 = .ok (.iload 5, 2) := by decide +kernel
theorem dc7_5 : decode jdk_52_method_21_code 5 = .ok (.iload 4, 2) := by decide +kernel
theorem dc7_7 : decode jdk_52_method_21_code 7 = .ok (.if_icmp .ge 37, 3) := by decide +kernel
theorem dc7_10 : decode jdk_52_method_21_code 10 = .ok (.aload_n 0, 1) := by decide +kernel
theorem dc7_11 : decode jdk_52_method_21_code 11 = .ok (.iload_n 1, 1) := by decide +kernel
theorem dc7_12 : decode jdk_52_method_21_code 12 = .ok (.caload, 1) := by decide +kernel
theorem dc7_13 : decode jdk_52_method_21_code 13 = .ok (.istore 6, 2) := by decide +kernel
theorem dc7_15 : decode jdk_52_method_21_code 15 = .ok (.iload 6, 2) := by decide +kernel
theorem dc7_17 : decode jdk_52_method_21_code 17 = .ok (.sipush 255, 3) := by decide +kernel
theorem dc7_20 : decode jdk_52_method_21_code 20 = .ok (.if_icmp .le 6, 3) := by decide +kernel
theorem dc7_23 : decode jdk_52_method_21_code 23 = .ok (.iload 5, 2) := by decide +kernel
theorem dc7_25 : decode jdk_52_method_21_code 25 = .ok (.ireturn, 1) := by decide +kernel
theorem dc7_26 : decode jdk_52_method_21_code 26 = .ok (.aload_n 2, 1) := by decide +kernel
theorem dc7_27 : decode jdk_52_method_21_code 27 = .ok (.iload_n 3, 1) := by decide +kernel
theorem dc7_28 : decode jdk_52_method_21_code 28 = .ok (.iload 6, 2) := by decide +kernel
theorem dc7_30 : decode jdk_52_method_21_code 30 = .ok (.i2b, 1) := by decide +kernel
theorem dc7_31 : decode jdk_52_method_21_code 31 = .ok (.bastore, 1) := by decide +kernel
theorem dc7_32 : decode jdk_52_method_21_code 32 = .ok (.iinc 1 1, 3) := by decide +kernel
theorem dc7_35 : decode jdk_52_method_21_code 35 = .ok (.iinc 3 1, 3) := by decide +kernel
theorem dc7_38 : decode jdk_52_method_21_code 38 = .ok (.iinc 5 1, 3) := by decide +kernel
theorem dc8_0 : decode jdk_52_method_16_code 0 = .ok (.iload_n 2, 1) := by decide +kernel
theorem dc8_1 : decode jdk_52_method_16_code 1 = .ok (.newarray .byte, 2) := by decide +kernel
theorem dc8_3 : decode jdk_52_method_16_code 3 = .ok (.astore_n 3, 1) := by decide +kernel
theorem dc8_4 : decode jdk_52_method_16_code 4 = .ok (.aload_n 0, 1) := by decide +kernel
theorem dc8_5 : decode jdk_52_method_16_code 5 = .ok (.iload_n 1, 1) := by decide +kernel
theorem dc8_6 : decode jdk_52_method_16_code 6 = .ok (.aload_n 3, 1) := by decide +kernel
theorem dc8_7 : decode jdk_52_method_16_code 7 = .ok (.iconst 0, 1) := by decide +kernel
theorem dc8_8 : decode jdk_52_method_16_code 8 = .ok (.iload_n 2, 1) := by decide +kernel
theorem dc8_9 : decode jdk_52_method_16_code 9 = .ok (.invokestatic 115, 3) := by decide +kernel
theorem dc8_12 : decode jdk_52_method_16_code 12 = .ok (.istore 4, 2) := by decide +kernel
theorem dc8_14 : decode jdk_52_method_16_code 14 = .ok (.iload 4, 2) := by decide +kernel
theorem dc8_16 : decode jdk_52_method_16_code 16 = .ok (.iload_n 2, 1) := by decide +kernel
theorem dc8_17 : decode jdk_52_method_16_code 17 = .ok (.if_icmp .eq 40, 3) := by decide +kernel
theorem dc8_20 : decode jdk_52_method_16_code 20 = .ok (.aload_n 0, 1) := by decide +kernel
theorem dc8_21 : decode jdk_52_method_16_code 21 = .ok (.iload_n 1, 1) := by decide +kernel
theorem dc8_22 : decode jdk_52_method_16_code 22 = .ok (.iload_n 2, 1) := by decide +kernel
theorem dc8_23 : decode jdk_52_method_16_code 23 = .ok (.invokestatic 119, 3) := by decide +kernel
theorem dc8_26 : decode jdk_52_method_16_code 26 = .ok (.astore 5, 2) := by decide +kernel
theorem dc8_28 : decode jdk_52_method_16_code 28 = .ok (.aload 5, 2) := by decide +kernel
theorem dc8_30 : decode jdk_52_method_16_code 30 = .ok (.iload 4, 2) := by decide +kernel
theorem dc8_32 : decode jdk_52_method_16_code 32 = .ok (.invokestatic 71, 3) := by decide +kernel
theorem dc8_35 : decode jdk_52_method_16_code 35 = .ok (.sipush 255, 3) := by decide +kernel
theorem dc8_38 : decode jdk_52_method_16_code 38 = .ok (.if_icmp .gt 16, 3) := by decide +kernel
theorem dc8_54 : decode jdk_52_method_16_code 54 = .ok (.aload 5, 2) := by decide +kernel
theorem dc8_56 : decode jdk_52_method_16_code 56 = .ok (.areturn, 1) := by decide +kernel
theorem dc9_0 : decode jdk_52_method_15_code 0 = .ok (.iload_n 1, 1) := by decide +kernel
theorem dc9_1 : decode jdk_52_method_15_code 1 = .ok (.aload_n 0, 1) := by decide +kernel
theorem dc9_2 : decode jdk_52_method_15_code 2 = .ok (.arraylength, 1) := by decide +kernel
theorem dc9_3 : decode jdk_52_method_15_code 3 = .ok (.isub, 1) := by decide +kernel
theorem dc9_4 : decode jdk_52_method_15_code 4 = .ok (.bipush 31, 2) := by decide +kernel
theorem dc9_6 : decode jdk_52_method_15_code 6 = .ok (.iushr, 1) := by decide +kernel
theorem dc9_7 : decode jdk_52_method_15_code 7 = .ok (.i2b, 1) := by decide +kernel
theorem dc9_8 : decode jdk_52_method_15_code 8 = .ok (.ireturn, 1) := by decide +kernel
theorem dc0_27 : decode jdk_42_method_149_code 27 = .ok (.getstatic 38, 3) := by decide +kernel
theorem dc0_30 : decode jdk_42_method_149_code 30 = .ok (.ifCond .eq 28, 3) := by decide +kernel
theorem dc0_33 : decode jdk_42_method_149_code 33 = .ok (.aload_n 1, 1) := by decide +kernel
theorem dc0_34 : decode jdk_42_method_149_code 34 = .ok (.iload_n 2, 1) := by decide +kernel
theorem dc0_35 : decode jdk_42_method_149_code 35 = .ok (.iload_n 3, 1) := by decide +kernel
theorem dc0_36 : decode jdk_42_method_149_code 36 = .ok (.invokestatic 177, 3) := by decide +kernel
theorem dc0_39 : decode jdk_42_method_149_code 39 = .ok (.astore 5, 2) := by decide +kernel
theorem dc0_41 : decode jdk_42_method_149_code 41 = .ok (.aload_n 0, 1) := by decide +kernel
theorem dc0_42 : decode jdk_42_method_149_code 42 = .ok (.aload 5, 2) := by decide +kernel
theorem dc0_44 : decode jdk_42_method_149_code 44 = .ok (.iload_n 3, 1) := by decide +kernel
theorem dc0_45 : decode jdk_42_method_149_code 45 = .ok (.invokestatic 47, 3) := by decide +kernel
theorem dc0_48 : decode jdk_42_method_149_code 48 = .ok (.putfield 15, 3) := by decide +kernel
theorem dc0_51 : decode jdk_42_method_149_code 51 = .ok (.aload_n 0, 1) := by decide +kernel
theorem dc0_52 : decode jdk_42_method_149_code 52 = .ok (.aload 5, 2) := by decide +kernel
theorem dc0_54 : decode jdk_42_method_149_code 54 = .ok (.putfield 9, 3) := by decide +kernel
theorem dc0_57 : decode jdk_42_method_149_code 57 = .ok (.return_, 1) := by decide +kernel
theorem dc7_41 : decode jdk_52_method_21_code 41 = .ok (.goto (-38), 3) := by decide +kernel
theorem dc10_0 : decode jdk_41_method_11_code 0 = .ok (.iload_n 0, 1) := by decide +kernel
theorem dc10_1 : decode jdk_41_method_11_code 1 = .ok (.ifCond .lt 8, 3) := by decide +kernel
theorem dc10_4 : decode jdk_41_method_11_code 4 = .ok (.iload_n 0, 1) := by decide +kernel
theorem dc10_5 : decode jdk_41_method_11_code 5 = .ok (.iload_n 1, 1) := by decide +kernel
theorem dc10_6 : decode jdk_41_method_11_code 6 = .ok (.if_icmp .lt 10, 3) := by decide +kernel
theorem dc10_16 : decode jdk_41_method_11_code 16 = .ok (.iload_n 0, 1) := by decide +kernel
theorem dc10_17 : decode jdk_41_method_11_code 17 = .ok (.ireturn, 1) := by decide +kernel
theorem dc11_0 : decode jdk_42_method_155_code 0 = .ok (.iload_n 0, 1) := by decide +kernel
theorem dc11_1 : decode jdk_42_method_155_code 1 = .ok (.iload_n 1, 1) := by decide +kernel
theorem dc11_2 : decode jdk_42_method_155_code 2 = .ok (.getstatic 1053, 3) := by decide +kernel
theorem dc11_5 : decode jdk_42_method_155_code 5 = .ok (.invokestatic 1059, 3) := by decide +kernel
theorem dc11_8 : decode jdk_42_method_155_code 8 = .ok (.pop, 1) := by decide +kernel
theorem dc11_9 : decode jdk_42_method_155_code 9 = .ok (.return_, 1) := by decide +kernel
theorem dc12_0 : decode jdk_42_method_154_code 0 = .ok (.getstatic 38, 3) := by decide +kernel
theorem dc12_3 : decode jdk_42_method_154_code 3 = .ok (.ifCond .eq 14, 3) := by decide +kernel
theorem dc12_6 : decode jdk_42_method_154_code 6 = .ok (.aload_n 0, 1) := by decide +kernel
theorem dc12_7 : decode jdk_42_method_154_code 7 = .ok (.getfield 15, 3) := by decide +kernel
theorem dc12_10 : decode jdk_42_method_154_code 10 = .ok (.ifCond .ne 7, 3) := by decide +kernel
theorem dc12_17 : decode jdk_42_method_154_code 17 = .ok (.iconst 0, 1) := by decide +kernel
theorem dc12_18 : decode jdk_42_method_154_code 18 = .ok (.ireturn, 1) := by decide +kernel
theorem dc13_0 : decode jdk_52_method_6_code 0 = .ok (.aload_n 0, 1) := by decide +kernel
theorem dc13_1 : decode jdk_52_method_6_code 1 = .ok (.arraylength, 1) := by decide +kernel
theorem dc13_2 : decode jdk_52_method_6_code 2 = .ok (.iconst 1, 1) := by decide +kernel
theorem dc13_3 : decode jdk_52_method_6_code 3 = .ok (.ishr, 1) := by decide +kernel
theorem dc13_4 : decode jdk_52_method_6_code 4 = .ok (.ireturn, 1) := by decide +kernel
theorem dc14_0 : decode jdk_52_method_91_code 0 = .ok (.iload_n 0, 1) := by decide +kernel
theorem dc14_1 : decode jdk_52_method_91_code 1 = .ok (.aload_n 1, 1) := by decide +kernel
theorem dc14_2 : decode jdk_52_method_91_code 2 = .ok (.invokestatic 48, 3) := by decide +kernel
theorem dc14_5 : decode jdk_52_method_91_code 5 = .ok (.invokestatic 414, 3) := by decide +kernel
theorem dc14_8 : decode jdk_52_method_91_code 8 = .ok (.return_, 1) := by decide +kernel
theorem dc15_0 : decode jdk_52_method_83_code 0 = .ok (.iload_n 1, 1) := by decide +kernel
theorem dc15_1 : decode jdk_52_method_83_code 1 = .ok (.aload_n 0, 1) := by decide +kernel
theorem dc15_2 : decode jdk_52_method_83_code 2 = .ok (.invokestatic 67, 3) := by decide +kernel
theorem dc15_5 : decode jdk_52_method_83_code 5 = .ok (.aload_n 0, 1) := by decide +kernel
theorem dc15_6 : decode jdk_52_method_83_code 6 = .ok (.iload_n 1, 1) := by decide +kernel
theorem dc15_7 : decode jdk_52_method_83_code 7 = .ok (.invokestatic 71, 3) := by decide +kernel
theorem dc15_10 : decode jdk_52_method_83_code 10 = .ok (.ireturn, 1) := by decide +kernel
theorem dc12_13 : decode jdk_42_method_154_code 13 = .ok (.iconst 1, 1) := by decide +kernel
theorem dc12_14 : decode jdk_42_method_154_code 14 = .ok (.goto 4, 3) := by decide +kernel
theorem dc16_0 : decode jdk_43_method_2_code 0 = .ok (.iload_n 1, 1) := by decide +kernel
theorem dc16_1 : decode jdk_43_method_2_code 1 = .ok (.aload_n 0, 1) := by decide +kernel
theorem dc16_2 : decode jdk_43_method_2_code 2 = .ok (.arraylength, 1) := by decide +kernel
theorem dc16_3 : decode jdk_43_method_2_code 3 = .ok (.invokestatic 9, 3) := by decide +kernel
theorem dc16_6 : decode jdk_43_method_2_code 6 = .ok (.aload_n 0, 1) := by decide +kernel
theorem dc16_7 : decode jdk_43_method_2_code 7 = .ok (.iload_n 1, 1) := by decide +kernel
theorem dc16_8 : decode jdk_43_method_2_code 8 = .ok (.baload, 1) := by decide +kernel
theorem dc16_9 : decode jdk_43_method_2_code 9 = .ok (.sipush 255, 3) := by decide +kernel
theorem dc16_12 : decode jdk_43_method_2_code 12 = .ok (.iand, 1) := by decide +kernel
theorem dc16_13 : decode jdk_43_method_2_code 13 = .ok (.i2c, 1) := by decide +kernel
theorem dc16_14 : decode jdk_43_method_2_code 14 = .ok (.ireturn, 1) := by decide +kernel
theorem dc17_0 : decode jdk_42_method_56_code 0 = .ok (.aload_n 0, 1) := by decide +kernel
theorem dc17_1 : decode jdk_42_method_56_code 1 = .ok (.invokevirtual 492, 3) := by decide +kernel
theorem dc17_4 : decode jdk_42_method_56_code 4 = .ok (.ifCond .eq 12, 3) := by decide +kernel
theorem dc17_7 : decode jdk_42_method_56_code 7 = .ok (.aload_n 0, 1) := by decide +kernel
theorem dc17_8 : decode jdk_42_method_56_code 8 = .ok (.getfield 9, 3) := by decide +kernel
theorem dc17_11 : decode jdk_42_method_56_code 11 = .ok (.iload_n 1, 1) := by decide +kernel
theorem dc17_12 : decode jdk_42_method_56_code 12 = .ok (.invokestatic 495, 3) := by decide +kernel
theorem dc17_15 : decode jdk_42_method_56_code 15 = .ok (.ireturn, 1) := by decide +kernel
theorem dc17_16 : decode jdk_42_method_56_code 16 = .ok (.aload_n 0, 1) := by decide +kernel
theorem dc17_17 : decode jdk_42_method_56_code 17 = .ok (.getfield 9, 3) := by decide +kernel
theorem dc17_20 : decode jdk_42_method_56_code 20 = .ok (.iload_n 1, 1) := by decide +kernel
theorem dc17_21 : decode jdk_42_method_56_code 21 = .ok (.invokestatic 498, 3) := by decide +kernel
theorem dc17_24 : decode jdk_42_method_56_code 24 = .ok (.ireturn, 1) := by decide +kernel
theorem dc18_0 : decode method_2_code 0 = .ok (.lload_n 0, 1) := by decide +kernel
theorem dc18_1 : decode method_2_code 1 = .ok (.bipush 16, 2) := by decide +kernel
theorem dc18_3 : decode method_2_code 3 = .ok (.iload_n 3, 1) := by decide +kernel
theorem dc18_4 : decode method_2_code 4 = .ok (.imul, 1) := by decide +kernel
theorem dc18_5 : decode method_2_code 5 = .ok (.lushr, 1) := by decide +kernel
theorem dc18_6 : decode method_2_code 6 = .ok (.ldc2_w 7, 3) := by decide +kernel
theorem dc18_9 : decode method_2_code 9 = .ok (.land, 1) := by decide +kernel
theorem dc18_10 : decode method_2_code 10 = .ok (.l2i, 1) := by decide +kernel
theorem dc18_11 : decode method_2_code 11 = .ok (.istore 4, 2) := by decide +kernel
theorem dc18_13 : decode method_2_code 13 = .ok (.iload_n 2, 1) := by decide +kernel
theorem dc18_14 : decode method_2_code 14 = .ok (.sipush 256, 3) := by decide +kernel
theorem dc18_17 : decode method_2_code 17 = .ok (.iload_n 3, 1) := by decide +kernel
theorem dc18_18 : decode method_2_code 18 = .ok (.ishl, 1) := by decide +kernel
theorem dc18_19 : decode method_2_code 19 = .ok (.iand, 1) := by decide +kernel
theorem dc18_20 : decode method_2_code 20 = .ok (.ifCond .eq 13, 3) := by decide +kernel
theorem dc18_33 : decode method_2_code 33 = .ok (.iload 4, 2) := by decide +kernel
theorem dc18_35 : decode method_2_code 35 = .ok (.i2c, 1) := by decide +kernel
theorem dc18_36 : decode method_2_code 36 = .ok (.ireturn, 1) := by decide +kernel
theorem dc18_23 : decode method_2_code 23 = .ok (.bipush 47, 2) := by decide +kernel
theorem dc18_25 : decode method_2_code 25 = .ok (.iload 4, 2) := by decide +kernel
theorem dc18_27 : decode method_2_code 27 = .ok (.bipush 15, 2) := by decide +kernel
theorem dc18_29 : decode method_2_code 29 = .ok (.iand, 1) := by decide +kernel
theorem dc18_30 : decode method_2_code 30 = .ok (.iadd, 1) := by decide +kernel
theorem dc18_31 : decode method_2_code 31 = .ok (.i2c, 1) := by decide +kernel
theorem dc18_32 : decode method_2_code 32 = .ok (.ireturn, 1) := by decide +kernel
theorem dc19_0 : decode method_3_code 0 = .ok (.bipush 48, 2) := by decide +kernel
theorem dc19_2 : decode method_3_code 2 = .ok (.iload_n 0, 1) := by decide +kernel
theorem dc19_3 : decode method_3_code 3 = .ok (.if_icmp .gt 13, 3) := by decide +kernel
theorem dc19_16 : decode method_3_code 16 = .ok (.iconst 0, 1) := by decide +kernel
theorem dc19_17 : decode method_3_code 17 = .ok (.ireturn, 1) := by decide +kernel
theorem dc19_6 : decode method_3_code 6 = .ok (.iload_n 0, 1) := by decide +kernel
theorem dc19_7 : decode method_3_code 7 = .ok (.bipush 57, 2) := by decide +kernel
theorem dc19_9 : decode method_3_code 9 = .ok (.if_icmp .gt 7, 3) := by decide +kernel
theorem dc19_12 : decode method_3_code 12 = .ok (.iconst 1, 1) := by decide +kernel
theorem dc19_13 : decode method_3_code 13 = .ok (.goto 4, 3) := by decide +kernel
theorem dc20_0 : decode method_4_code 0 = .ok (.iload_n 1, 1) := by decide +kernel
theorem dc20_1 : decode method_4_code 1 = .ok (.iload_n 2, 1) := by decide +kernel
theorem dc20_2 : decode method_4_code 2 = .ok (.if_icmp .lt 15, 3) := by decide +kernel
theorem dc20_17 : decode method_4_code 17 = .ok (.iconst 1, 1) := by decide +kernel
theorem dc20_18 : decode method_4_code 18 = .ok (.goto 4, 3) := by decide +kernel
theorem dc20_22 : decode method_4_code 22 = .ok (.ireturn, 1) := by decide +kernel
theorem dc20_5 : decode method_4_code 5 = .ok (.iload_n 1, 1) := by decide +kernel
theorem dc20_6 : decode method_4_code 6 = .ok (.iload_n 3, 1) := by decide +kernel
theorem dc20_7 : decode method_4_code 7 = .ok (.if_icmp .ge 10, 3) := by decide +kernel
theorem dc20_10 : decode method_4_code 10 = .ok (.iload_n 0, 1) := by decide +kernel
theorem dc20_11 : decode method_4_code 11 = .ok (.invokestatic 9, 3) := by decide +kernel
theorem dc20_14 : decode method_4_code 14 = .ok (.ifCond .eq 7, 3) := by decide +kernel
theorem dc20_21 : decode method_4_code 21 = .ok (.iconst 0, 1) := by decide +kernel
theorem dc21_0 : decode method_5_code 0 = .ok (.iload_n 0, 1) := by decide +kernel
theorem dc21_1 : decode method_5_code 1 = .ok (.ifCond .ne 14, 3) := by decide +kernel
theorem dc21_4 : decode method_5_code 4 = .ok (.new 15, 3) := by decide +kernel
theorem dc21_7 : decode method_5_code 7 = .ok (.dup, 1) := by decide +kernel
theorem dc21_8 : decode method_5_code 8 = .ok (.iconst 0, 1) := by decide +kernel
theorem dc21_9 : decode method_5_code 9 = .ok (.newarray .char, 2) := by decide +kernel
theorem dc21_11 : decode method_5_code 11 = .ok (.invokespecial 17, 3) := by decide +kernel
theorem dc21_14 : decode method_5_code 14 = .ok (.areturn, 1) := by decide +kernel
theorem dc21_15 : decode method_5_code 15 = .ok (.iload_n 0, 1) := by decide +kernel
theorem dc21_16 : decode method_5_code 16 = .ok (.iconst 1, 1) := by decide +kernel
theorem dc21_17 : decode method_5_code 17 = .ok (.if_icmp .ne 18, 3) := by decide +kernel
theorem dc21_20 : decode method_5_code 20 = .ok (.new 15, 3) := by decide +kernel
theorem dc21_23 : decode method_5_code 23 = .ok (.dup, 1) := by decide +kernel
theorem dc21_24 : decode method_5_code 24 = .ok (.iconst 1, 1) := by decide +kernel
theorem dc21_25 : decode method_5_code 25 = .ok (.newarray .char, 2) := by decide +kernel
theorem dc21_27 : decode method_5_code 27 = .ok (.dup, 1) := by decide +kernel
theorem dc21_28 : decode method_5_code 28 = .ok (.iconst 0, 1) := by decide +kernel
theorem dc21_29 : decode method_5_code 29 = .ok (.iload_n 1, 1) := by decide +kernel
theorem dc21_30 : decode method_5_code 30 = .ok (.castore, 1) := by decide +kernel
theorem dc21_31 : decode method_5_code 31 = .ok (.invokespecial 17, 3) := by decide +kernel
theorem dc21_34 : decode method_5_code 34 = .ok (.areturn, 1) := by decide +kernel
theorem dc21_35 : decode method_5_code 35 = .ok (.iload_n 0, 1) := by decide +kernel
theorem dc21_36 : decode method_5_code 36 = .ok (.iconst 2, 1) := by decide +kernel
theorem dc21_37 : decode method_5_code 37 = .ok (.if_icmp .ne 22, 3) := by decide +kernel
theorem dc21_40 : decode method_5_code 40 = .ok (.new 15, 3) := by decide +kernel
theorem dc21_43 : decode method_5_code 43 = .ok (.dup, 1) := by decide +kernel
theorem dc21_44 : decode method_5_code 44 = .ok (.iconst 2, 1) := by decide +kernel
theorem dc21_45 : decode method_5_code 45 = .ok (.newarray .char, 2) := by decide +kernel
theorem dc21_47 : decode method_5_code 47 = .ok (.dup, 1) := by decide +kernel
theorem dc21_48 : decode method_5_code 48 = .ok (.iconst 0, 1) := by decide +kernel
theorem dc21_49 : decode method_5_code 49 = .ok (.iload_n 1, 1) := by decide +kernel
theorem dc21_50 : decode method_5_code 50 = .ok (.castore, 1) := by decide +kernel
theorem dc21_51 : decode method_5_code 51 = .ok (.dup, 1) := by decide +kernel
theorem dc21_52 : decode method_5_code 52 = .ok (.iconst 1, 1) := by decide +kernel
theorem dc21_53 : decode method_5_code 53 = .ok (.iload_n 2, 1) := by decide +kernel
theorem dc21_54 : decode method_5_code 54 = .ok (.castore, 1) := by decide +kernel
theorem dc21_55 : decode method_5_code 55 = .ok (.invokespecial 17, 3) := by decide +kernel
theorem dc21_58 : decode method_5_code 58 = .ok (.areturn, 1) := by decide +kernel
theorem dc21_59 : decode method_5_code 59 = .ok (.iload_n 0, 1) := by decide +kernel
theorem dc21_60 : decode method_5_code 60 = .ok (.iconst 3, 1) := by decide +kernel
theorem dc21_61 : decode method_5_code 61 = .ok (.if_icmp .ne 26, 3) := by decide +kernel
theorem dc21_64 : decode method_5_code 64 = .ok (.new 15, 3) := by decide +kernel
theorem dc21_67 : decode method_5_code 67 = .ok (.dup, 1) := by decide +kernel
theorem dc21_68 : decode method_5_code 68 = .ok (.iconst 3, 1) := by decide +kernel
theorem dc21_69 : decode method_5_code 69 = .ok (.newarray .char, 2) := by decide +kernel
theorem dc21_71 : decode method_5_code 71 = .ok (.dup, 1) := by decide +kernel
theorem dc21_72 : decode method_5_code 72 = .ok (.iconst 0, 1) := by decide +kernel
theorem dc21_73 : decode method_5_code 73 = .ok (.iload_n 1, 1) := by decide +kernel
theorem dc21_74 : decode method_5_code 74 = .ok (.castore, 1) := by decide +kernel
theorem dc21_75 : decode method_5_code 75 = .ok (.dup, 1) := by decide +kernel
theorem dc21_76 : decode method_5_code 76 = .ok (.iconst 1, 1) := by decide +kernel
theorem dc21_77 : decode method_5_code 77 = .ok (.iload_n 2, 1) := by decide +kernel
theorem dc21_78 : decode method_5_code 78 = .ok (.castore, 1) := by decide +kernel
theorem dc21_79 : decode method_5_code 79 = .ok (.dup, 1) := by decide +kernel
theorem dc21_80 : decode method_5_code 80 = .ok (.iconst 2, 1) := by decide +kernel
theorem dc21_81 : decode method_5_code 81 = .ok (.iload_n 3, 1) := by decide +kernel
theorem dc21_82 : decode method_5_code 82 = .ok (.castore, 1) := by decide +kernel
theorem dc21_83 : decode method_5_code 83 = .ok (.invokespecial 17, 3) := by decide +kernel
theorem dc21_86 : decode method_5_code 86 = .ok (.areturn, 1) := by decide +kernel
theorem dc21_87 : decode method_5_code 87 = .ok (.new 15, 3) := by decide +kernel
theorem dc21_90 : decode method_5_code 90 = .ok (.dup, 1) := by decide +kernel
theorem dc21_91 : decode method_5_code 91 = .ok (.iconst 4, 1) := by decide +kernel
theorem dc21_92 : decode method_5_code 92 = .ok (.newarray .char, 2) := by decide +kernel
theorem dc21_94 : decode method_5_code 94 = .ok (.dup, 1) := by decide +kernel
theorem dc21_95 : decode method_5_code 95 = .ok (.iconst 0, 1) := by decide +kernel
theorem dc21_96 : decode method_5_code 96 = .ok (.iload_n 1, 1) := by decide +kernel
theorem dc21_97 : decode method_5_code 97 = .ok (.castore, 1) := by decide +kernel
theorem dc21_98 : decode method_5_code 98 = .ok (.dup, 1) := by decide +kernel
theorem dc21_99 : decode method_5_code 99 = .ok (.iconst 1, 1) := by decide +kernel
theorem dc21_100 : decode method_5_code 100 = .ok (.iload_n 2, 1) := by decide +kernel
theorem dc21_101 : decode method_5_code 101 = .ok (.castore, 1) := by decide +kernel
theorem dc21_102 : decode method_5_code 102 = .ok (.dup, 1) := by decide +kernel
theorem dc21_103 : decode method_5_code 103 = .ok (.iconst 2, 1) := by decide +kernel
theorem dc21_104 : decode method_5_code 104 = .ok (.iload_n 3, 1) := by decide +kernel
theorem dc21_105 : decode method_5_code 105 = .ok (.castore, 1) := by decide +kernel
theorem dc21_106 : decode method_5_code 106 = .ok (.dup, 1) := by decide +kernel
theorem dc21_107 : decode method_5_code 107 = .ok (.iconst 3, 1) := by decide +kernel
theorem dc21_108 : decode method_5_code 108 = .ok (.iload 4, 2) := by decide +kernel
theorem dc21_110 : decode method_5_code 110 = .ok (.castore, 1) := by decide +kernel
theorem dc21_111 : decode method_5_code 111 = .ok (.invokespecial 17, 3) := by decide +kernel
theorem dc21_114 : decode method_5_code 114 = .ok (.areturn, 1) := by decide +kernel
theorem dc22_0 : decode prog_29_method_10_code 0 = .ok (.iload_n 1, 1) := by decide +kernel
theorem dc22_1 : decode prog_29_method_10_code 1 = .ok (.iload_n 2, 1) := by decide +kernel
theorem dc22_2 : decode prog_29_method_10_code 2 = .ok (.if_icmp .ge 11, 3) := by decide +kernel
theorem dc22_13 : decode prog_29_method_10_code 13 = .ok (.iconst 0, 1) := by decide +kernel
theorem dc22_14 : decode prog_29_method_10_code 14 = .ok (.ireturn, 1) := by decide +kernel
theorem dc22_5 : decode prog_29_method_10_code 5 = .ok (.iload_n 2, 1) := by decide +kernel
theorem dc22_6 : decode prog_29_method_10_code 6 = .ok (.aload_n 0, 1) := by decide +kernel
theorem dc22_7 : decode prog_29_method_10_code 7 = .ok (.invokevirtual 7, 3) := by decide +kernel
theorem dc22_10 : decode prog_29_method_10_code 10 = .ok (.if_icmp .le 5, 3) := by decide +kernel
theorem dc22_15 : decode prog_29_method_10_code 15 = .ok (.iload_n 1, 1) := by decide +kernel
theorem dc22_16 : decode prog_29_method_10_code 16 = .ok (.istore_n 3, 1) := by decide +kernel
theorem dc22_17 : decode prog_29_method_10_code 17 = .ok (.iload_n 3, 1) := by decide +kernel
theorem dc22_18 : decode prog_29_method_10_code 18 = .ok (.iload_n 2, 1) := by decide +kernel
theorem dc22_19 : decode prog_29_method_10_code 19 = .ok (.if_icmp .ge 32, 3) := by decide +kernel
theorem dc22_51 : decode prog_29_method_10_code 51 = .ok (.iconst 1, 1) := by decide +kernel
theorem dc22_52 : decode prog_29_method_10_code 52 = .ok (.ireturn, 1) := by decide +kernel
theorem dc22_22 : decode prog_29_method_10_code 22 = .ok (.aload_n 0, 1) := by decide +kernel
theorem dc22_23 : decode prog_29_method_10_code 23 = .ok (.iload_n 3, 1) := by decide +kernel
theorem dc22_24 : decode prog_29_method_10_code 24 = .ok (.invokevirtual 19, 3) := by decide +kernel
theorem dc22_27 : decode prog_29_method_10_code 27 = .ok (.istore 4, 2) := by decide +kernel
theorem dc22_29 : decode prog_29_method_10_code 29 = .ok (.iload 4, 2) := by decide +kernel
theorem dc22_31 : decode prog_29_method_10_code 31 = .ok (.bipush 48, 2) := by decide +kernel
theorem dc22_33 : decode prog_29_method_10_code 33 = .ok (.if_icmp .lt 10, 3) := by decide +kernel
theorem dc22_43 : decode prog_29_method_10_code 43 = .ok (.iconst 0, 1) := by decide +kernel
theorem dc22_44 : decode prog_29_method_10_code 44 = .ok (.ireturn, 1) := by decide +kernel
theorem dc22_36 : decode prog_29_method_10_code 36 = .ok (.iload 4, 2) := by decide +kernel
theorem dc22_38 : decode prog_29_method_10_code 38 = .ok (.bipush 57, 2) := by decide +kernel
theorem dc22_40 : decode prog_29_method_10_code 40 = .ok (.if_icmp .le 5, 3) := by decide +kernel
theorem dc22_45 : decode prog_29_method_10_code 45 = .ok (.iinc 3 1, 3) := by decide +kernel
theorem dc22_48 : decode prog_29_method_10_code 48 = .ok (.goto (-31), 3) := by decide +kernel
theorem pd_0 : parseMethodDescriptor "([CIILjava/lang/Void;)V" = some ⟨[(.array .char), .int, .int, (.object "java/lang/Void")], none⟩ := by decide +kernel
theorem pd_1 : parseMethodDescriptor "(I)I" = some ⟨[.int], some .int⟩ := by decide +kernel
theorem pd_2 : parseMethodDescriptor "(I)[B" = some ⟨[.int], some (.array .byte)⟩ := by decide +kernel
theorem pd_3 : parseMethodDescriptor "([BII)V" = some ⟨[(.array .byte), .int, .int], none⟩ := by decide +kernel
theorem pd_4 : parseMethodDescriptor "([CI[BII)I" = some ⟨[(.array .char), .int, (.array .byte), .int, .int], some .int⟩ := by decide +kernel
theorem pd_5 : parseMethodDescriptor "([CII)[B" = some ⟨[(.array .char), .int, .int], some (.array .byte)⟩ := by decide +kernel
theorem pd_6 : parseMethodDescriptor "([BI)C" = some ⟨[(.array .byte), .int], some .char⟩ := by decide +kernel
theorem pd_7 : parseMethodDescriptor "([BI)B" = some ⟨[(.array .byte), .int], some .byte⟩ := by decide +kernel
theorem pd_8 : parseMethodDescriptor "(IILjava/util/function/BiFunction;)I" = some ⟨[.int, .int, (.object "java/util/function/BiFunction")], some .int⟩ := by decide +kernel
theorem pd_9 : parseMethodDescriptor "([B)I" = some ⟨[(.array .byte)], some .int⟩ := by decide +kernel
theorem pd_10 : parseMethodDescriptor "(II)V" = some ⟨[.int, .int], none⟩ := by decide +kernel
theorem pd_11 : parseMethodDescriptor "(I[B)V" = some ⟨[.int, (.array .byte)], none⟩ := by decide +kernel
theorem pd_12 : parseMethodDescriptor "()Z" = some ⟨[], some .boolean⟩ := by decide +kernel
theorem pd_13 : parseMethodDescriptor "(C)Z" = some ⟨[.char], some .boolean⟩ := by decide +kernel
theorem pd_14 : parseMethodDescriptor "([C)V" = some ⟨[(.array .char)], none⟩ := by decide +kernel
theorem pd_15 : parseMethodDescriptor "(I)C" = some ⟨[.int], some .char⟩ := by decide +kernel
theorem pd_16 : parseMethodDescriptor "(JII)C" = some ⟨[.long, .int, .int], some .char⟩ := by decide +kernel
theorem pd_17 : parseMethodDescriptor "(ICCCC)Ljava/lang/String;" = some ⟨[.int, .char, .char, .char, .char], some (.object "java/lang/String")⟩ := by decide +kernel
theorem pd_18 : parseMethodDescriptor "(Ljava/lang/String;II)Z" = some ⟨[(.object "java/lang/String"), .int, .int], some .boolean⟩ := by decide +kernel
theorem pd_19 : parseMethodDescriptor "(CIII)Z" = some ⟨[.char, .int, .int, .int], some .boolean⟩ := by decide +kernel
theorem pn_0 : plainName "java/lang/String" = true := by first | (simp [plainName, overriddenIn]; done) | decide +kernel
theorem pn_1 : plainName "java/lang/StringUTF16" = true := by first | (simp [plainName, overriddenIn]; done) | decide +kernel
theorem pn_2 : plainName "jdk/internal/util/Preconditions" = true := by first | (simp [plainName, overriddenIn]; done) | decide +kernel
theorem pn_3 : plainName "java/lang/StringLatin1" = true := by first | (simp [plainName, overriddenIn]; done) | decide +kernel
theorem pn_4 : plainName "com/example/kontraktbuch/kontraktbuch/NotationIsDigitsPinLaw" = true := by first | (simp [plainName, overriddenIn]; done) | decide +kernel
theorem pn_5 : plainName "com/example/kontraktbuch/kontraktbuch/Notation" = true := by first | (simp [plainName, overriddenIn]; done) | decide +kernel
theorem c_str4e (l : Launch) (Z : State) (a0 : Array Value) (hw : HW Z a0) (hEL : EW Z a0 [("java/lang/String", 7)]) (h0 : Heap) (hE0 : Ext Z.heap h0) (x b : Addr) (E_x : Exa Z h0 x "java/lang/String") (FV : Fld Z h0 x "java/lang/String" "value" "[B" .null) (FC : Fld Z h0 x "java/lang/String" "coder" "B" (.int 0)) (z_x : Z.heap.size ≤ x) :
    Con l Z [("java/lang/String", 7)] [x] (⟨"java/lang/String", "<init>", "([CIILjava/lang/Void;)V"⟩ : MethodName) jdk_42_method_149_code 6 none [] (⟨1, 4, 8, 14⟩ : Room) #[(.ref x), (.ref b), (.int (0 : Int32)), (.int (0 : Int32)), .null] h0 (fun v h' => v = none ∧ Keep h0 h' [x] ∧ Str Z h' x []) := by
  refine Con.mk (plainFor_of_name pn_0) hEL hE0 (allS E_x.lt all0) ?_
  intro p e s m below meth c T0 hby hml hret hnm W0
  rw [(show entryFrame m #[(.ref x), (.ref b), (.int (0 : Int32)), (.int (0 : Int32)), .null] 6 = mkF m 0 #[.val (.ref x), .val (.ref b), .val (.int (0 : Int32)), .val (.int (0 : Int32)), .val .null, .unset] [] from by first | (simp [entryFrame, mkF, argsToLocals, Value.category]; done) | rfl)]
  refine Go.by (fun t9_ q9_ => XS.aloadN W0.here W0.hx rfl (hb hby dc0_0) rfl rfl q9_) ?_
  show Go _ _ _ _ _ _ _ _ _ (T0.setTop (mkF m 1 #[.val (.ref x), .val (.ref b), .val (.int (0 : Int32)), .val (.int (0 : Int32)), .val .null, .unset] [(.ref x)]))
  refine W0.initO (wd19 hw) (wd20 hw) (wd21 hw) (by rw [hml]; rfl) (hb hby dc0_1) (by decide) (Wt := 0) (Nat.le_of_eq rfl) (by decide) ?_
  intro T1 W2
  refine Go.by (fun t9_ q9_ => XS.iloadN W2.here W2.hx rfl (hb hby dc0_4) rfl q9_) ?_
  refine Go.by (fun t9_ q9_ => XS.ifNo W2.here W2.hx rfl (hb hby dc0_5) rfl ((if0 _ _).trans (teq rfl).2) q9_) ?_
  refine Go.by (fun t9_ q9_ => XS.aloadN W2.here W2.hx rfl (hb hby dc0_8) rfl rfl q9_) ?_
  show Go _ _ _ _ _ _ _ _ _ (T1.setTop (mkF m 9 #[.val (.ref x), .val (.ref b), .val (.int (0 : Int32)), .val (.int (0 : Int32)), .val .null, .unset] [(.ref x)]))
  refine W2.ldcC (cs := []) (wd22 hw) (k_sa hw) (List.mem_of_getElem? (i := 0) rfl) ⟨by decide +kernel, by decide +kernel⟩ (by decide) (by decide) (by decide) (hb hby dc0_9) (q := 0) (by decide +kernel) (by decide) (k' := 2) (n' := 4) rfl rfl (by decide) (by decide) ?_
  intro T3 h4 d1 W5 E6 S_d1 ne_d1
  obtain ⟨t1, kb1, cd1, N1, vs1, s1, s2, s3, s4, s5, s6⟩ := S_d1
  have ne1 : t1 ≠ x := Ne.symm (Exa.neArv (E_x.ext E6) s4 (wd9 hw))
  show Go _ _ _ _ _ _ _ _ _ (T3.setTop (mkF m 11 #[.val (.ref x), .val (.ref b), .val (.int (0 : Int32)), .val (.int (0 : Int32)), .val .null, .unset] [(.ref d1), (.ref x)]))
  refine W5.getf (host := "") (Or.inl (wd28 hw)) Via.refl s2 (hb hby dc0_11) ?_
  intro T7 W8
  show Go _ _ _ _ _ _ _ _ _ (T7.setTop (mkF m 14 #[.val (.ref x), .val (.ref b), .val (.int (0 : Int32)), .val (.int (0 : Int32)), .val .null, .unset] [(.ref t1), (.ref x)]))
  refine W8.putf (host := "") (Or.inl (wd28 hw)) Via.refl (FV.ext E6) (E_x.ext E6) (Or.inr ⟨(wd24 hw), rfl, hnm⟩) (wd9 hw) (ty := (.array .byte)) (by decide) rfl rfl z_x (List.mem_of_getElem? (i := 0) rfl) (hb hby dc0_14) ?_
  intro T9 h10 W11 Wr12
  have F13 : Fld Z h10 x "java/lang/String" "value" "[B" (.ref t1) := (FV.ext E6).same Wr12
  have F14 : Fld Z h10 x "java/lang/String" "coder" "B" (.int 0) := (FC.ext E6).other Wr12 (Or.inr (slot_ne (Or.inr (wd25 hw)) (Or.inr (wd24 hw)) (by decide) (t := .byte) (t' := (.array .byte)) (by decide) (by decide)))
  have A15 : Exa Z h10 x "java/lang/String" := (E_x.ext E6).wr Wr12
  refine Go.by (fun t9_ q9_ => XS.aloadN W11.here W11.hx rfl (hb hby dc0_17) rfl rfl q9_) ?_
  show Go _ _ _ _ _ _ _ _ _ (T9.setTop (mkF m 18 #[.val (.ref x), .val (.ref b), .val (.int (0 : Int32)), .val (.int (0 : Int32)), .val .null, .unset] [(.ref x)]))
  refine W11.ldcC (cs := []) (wd22 hw) (k_sa hw) (List.mem_of_getElem? (i := 0) rfl) ⟨by decide +kernel, by decide +kernel⟩ (by decide) (by decide) (by decide) (hb hby dc0_18) (q := 0) (by decide +kernel) (by decide) (k' := 4) (n' := 8) rfl rfl (by decide) (by decide) ?_
  intro T16 h17 d2 W18 E19 S_d2 ne_d2
  obtain ⟨t2, kb2, cd2, N2, vs2, u1, u2, u3, u4, u5, u6⟩ := S_d2
  obtain ⟨rfl, -⟩ : cd2 = 0 ∧ True := by rcases u5 with ⟨q, -⟩ | ⟨-, -, -, c, hc, -⟩; exact ⟨q, trivial⟩; cases hc
  show Go _ _ _ _ _ _ _ _ _ (T16.setTop (mkF m 20 #[.val (.ref x), .val (.ref b), .val (.int (0 : Int32)), .val (.int (0 : Int32)), .val .null, .unset] [(.ref d2), (.ref x)]))
  refine W18.getf (host := "") (Or.inl (wd29 hw)) Via.refl u3 (hb hby dc0_20) ?_
  intro T20 W21
  show Go _ _ _ _ _ _ _ _ _ (T20.setTop (mkF m 23 #[.val (.ref x), .val (.ref b), .val (.int (0 : Int32)), .val (.int (0 : Int32)), .val .null, .unset] [(.int (0 : Int32)), (.ref x)]))
  refine W21.putf (host := "") (Or.inl (wd29 hw)) Via.refl (F14.ext E19) (A15.ext E19) (Or.inr ⟨(wd25 hw), rfl, hnm⟩) (wd9 hw) (ty := .byte) (by decide) rfl rfl z_x (List.mem_of_getElem? (i := 0) rfl) (hb hby dc0_23) ?_
  intro T22 h23 W24 Wr25
  have F26 : Fld Z h23 x "java/lang/String" "coder" "B" (.int (0 : Int32)) := (F14.ext E19).same Wr25
  have F27 : Fld Z h23 x "java/lang/String" "value" "[B" (.ref t1) := (F13.ext E19).other Wr25 (Or.inr (slot_ne (Or.inr (wd24 hw)) (Or.inr (wd25 hw)) (by decide) (t := (.array .byte)) (t' := .byte) (by decide) (by decide)))
  have A28 : Exa Z h23 x "java/lang/String" := (A15.ext E19).wr Wr25
  show Go _ _ _ _ _ _ _ _ _ (T22.setTop (mkF m 26 #[.val (.ref x), .val (.ref b), .val (.int (0 : Int32)), .val (.int (0 : Int32)), .val .null, .unset] []))
  exact W24.retV (by decide) (by decide) hret (hb hby dc0_26) ⟨rfl, (((((Keep.refl h0 [x]).ext E6).wr Wr12 (Or.inl (List.mem_of_getElem? (i := 0) rfl))).ext E19).wr Wr25 (Or.inl (List.mem_of_getElem? (i := 0) rfl))), ⟨t1, kb1, 0, N1, vs1, A28, F27, F26, (((s4.other Wr12 ne1).ext E19).other Wr25 ne1), (by rcases s5 with ⟨-, q⟩ | ⟨-, -, -, c, hc, -⟩; exact Or.inl ⟨rfl, q⟩; cases hc), s6⟩⟩
theorem c_str1e (l : Launch) (Z : State) (a0 : Array Value) (hw : HW Z a0) (hEL : EW Z a0 [("java/lang/String", 7)]) (h0 : Heap) (hE0 : Ext Z.heap h0) (x b : Addr) (kb : ClassId) (vs : List Value) (dv : Value) (E_x : Exa Z h0 x "java/lang/String") (FV : Fld Z h0 x "java/lang/String" "value" "[B" .null) (FC : Fld Z h0 x "java/lang/String" "coder" "B" (.int 0)) (z_x : Z.heap.size ≤ x) (A_b : Arv Z h0 b kb .char 0 vs dv) :
    Con l Z [("java/lang/String", 7)] [x] (⟨"java/lang/String", "<init>", "([C)V"⟩ : MethodName) jdk_42_method_3_code 2 none [] (⟨2, 4, 8, 31⟩ : Room) #[(.ref x), (.ref b)] h0 (fun v h' => v = none ∧ Keep h0 h' [x] ∧ Str Z h' x []) := by
  refine Con.mk (plainFor_of_name pn_0) hEL hE0 (allS E_x.lt all0) ?_
  intro p e s m below meth c T0 hby hml hret hnm W0
  rw [(show entryFrame m #[(.ref x), (.ref b)] 2 = mkF m 0 #[.val (.ref x), .val (.ref b)] [] from by first | (simp [entryFrame, mkF, argsToLocals, Value.category]; done) | rfl)]
  refine Go.by (fun t9_ q9_ => XS.aloadN W0.here W0.hx rfl (hb hby dc1_0) rfl rfl (XS.aloadN W0.here W0.hx rfl (hb hby dc1_1) rfl rfl (XS.iconst W0.here W0.hx rfl (hb hby dc1_2) (XS.aloadN W0.here W0.hx rfl (hb hby dc1_3) rfl rfl q9_)))) ?_
  show Go _ _ _ _ _ _ _ _ _ (T0.setTop (mkF m 4 #[.val (.ref x), .val (.ref b)] [(.ref b), (.int (0 : Int32)), (.ref b), (.ref x)]))
  refine W0.alen A_b (hb hby dc1_4) ?_
  refine Go.by (fun t9_ q9_ => XS.aconstNull W0.here W0.hx rfl (hb hby dc1_5) q9_) ?_
  show Go _ _ _ _ _ _ _ _ _ (T0.setTop (mkF m 6 #[.val (.ref x), .val (.ref b)] [.null, (.int (0 : Int32)), (.int (0 : Int32)), (.ref b), (.ref x)]))
  refine W0.callI (y := (⟨"java/lang/String", "<init>", "([CIILjava/lang/Void;)V"⟩ : MethodName)) rfl (wd15 hw) (wd16 hw) (wd10 hw) (wd18 hw) (by decide) (a := x) (c_str4e l Z a0 hw hEL h0 hE0 x b E_x FV FC z_x) (allS (List.mem_of_getElem? (i := 0) rfl) all0) (by decide) (by decide) (k' := 4) (n' := 8) rfl rfl (by decide) (by decide) (by rw [hml]; rfl) (argsL := [(.ref b), (.int (0 : Int32)), (.int (0 : Int32)), .null]) (rest := []) (lenOf pd_0 rfl) rfl rfl (Wt := 0) (Nat.le_of_eq rfl) (hb hby dc1_6) ?_
  intro v_ T29 h31 W30 hq_
  obtain ⟨rfl, K1, S1⟩ := hq_
  show Go _ _ _ _ _ _ _ _ _ (T29.setTop (mkF m 9 #[.val (.ref x), .val (.ref b)] []))
  exact W30.retV (by decide) (by decide) hret (hb hby dc1_9) ⟨rfl, K1, S1⟩
def PS3 (Z : State) : Prop := Sta Z Z.heap "java/lang/StringUTF16" "$assertionsDisabled" "Z" (.int 1) ∧ Sta Z Z.heap "java/lang/StringUTF16" "HI_BYTE_SHIFT" "I" (.int 0) ∧ Sta Z Z.heap "java/lang/StringUTF16" "LO_BYTE_SHIFT" "I" (.int 8)
theorem PS3.ad {Z : State} (h : PS3 Z) : Sta Z Z.heap "java/lang/StringUTF16" "$assertionsDisabled" "Z" (.int 1) := by obtain ⟨a, -, -⟩ := h; exact a
theorem PS3.hi {Z : State} (h : PS3 Z) : Sta Z Z.heap "java/lang/StringUTF16" "HI_BYTE_SHIFT" "I" (.int 0) := by obtain ⟨-, a, -⟩ := h; exact a
theorem PS3.lo {Z : State} (h : PS3 Z) : Sta Z Z.heap "java/lang/StringUTF16" "LO_BYTE_SHIFT" "I" (.int 8) := by obtain ⟨-, -, a⟩ := h; exact a
theorem Safe.ne0 {Z : State} {a0 : Array Value} {vm : Vm} {h : Heap} {x : Addr} {kA : ClassId} {N2 : Int32} {vs : List Value} {dv : Value} {own : String} {index : Nat} (hZ : Z.Warmed39 vm) (w : (Cond.stringLink own index "").before a0 Z = true) (A : Arv Z h x kA .byte N2 vs dv) (hN : ¬ N2 = 0) : Safe Z [(own, index)] vm h x := fun B => by
  obtain ⟨cl, ⟨A1, ⟨-, kA', hkA, compA, hkindA⟩, -⟩, -, S, hn0, -, -⟩ := A
  obtain ⟨kA2, hkA2, ekA⟩ := hZ.alike.2.2 _ _ hkA
  obtain ⟨p, hp, u, a, ⟨c, k', cf, i, hc', hk', hcf', hpool, hu, -⟩, q, -, F, rfl | rfl⟩ := B
  · cases (show h[q.sa]? = some q.sC from F.ha).symm.trans A1
    obtain ⟨cS, ⟨-, -, e⟩, ⟨kS, g1, g2, -⟩, -⟩ := F
    subst e
    cases (show vm.classes[q.sC.cls]? = some kS from g1).symm.trans hkA2
    rw [ekA] at g2
    have := hkindA.symm.trans g2
    cases this
  · cases (show h[q.sd]? = some q.SA from F.hd).symm.trans A1
    obtain rfl := List.mem_singleton.mp hp
    have w2 : (Cond.stringLink own index "").before a0 (Jvm.RoadKit.Wst Z vm h) = true := mvS (s := { Z with heap := h }) hZ w
    obtain ⟨k, cf0, i0, units0, hk, hcf, hp0, hu0, -, htext, -⟩ := Cond.stringLink_spec (s := Jvm.RoadKit.Wst Z vm h) hc' w2
    cases hk'.symm.trans hk
    cases hcf'.symm.trans hcf
    cases hpool.symm.trans hp0
    cases hu.symm.trans hu0
    have e1 := Jvm.ClassFile.units_of_text htext (by decide)
    have e2 : u.size = 0 := by
      have q := congrArg List.length e1
      simpa using q
    obtain ⟨cS, -, -, -, e⟩ := F
    have e3 : q.SA.slots.size = 0 := by rw [e, Array.eq_empty_of_size_eq_zero e2]; decide +kernel
    rw [e3] at S
    apply hN
    have e4 := (back32 hn0).1
    rw [← S] at e4
    exact e4.symm
theorem Wk.safe0 {p : Program} {l : Launch} {e : Env} {R : Room} {s : State} {m : MethodId} {args : Array Value} {below : List Frame} {meth : Method} {c : Code} {Z : State} {a0 : Array Value} {own o' : String} {i' : Nat} {sf : List Addr} {T : State} {h : Heap} {k n : Nat} {x : Addr} {kA : ClassId} {N2 : Int32} {vs : List Value} {dv : Value} (W : Wk p l e R s m args below meth c Z a0 [(o', i')] own sf T h k n) (w : (Cond.stringLink o' i' "").before a0 Z = true) (A : Arv Z h x kA .byte N2 vs dv) (hN : ¬ N2 = 0) : Wk p l e R s m args below meth c Z a0 [(o', i')] own (x :: sf) T h k n := by
  obtain ⟨w1, w2, w3, w4, vm0, k0, L, X, r1, r2, r3, r4, r5, r6, r7, r8⟩ := W
  exact ⟨w1, w2, w3, w4, vm0, k0, L, X, r1, r2, r3, r4, r5, r6, fun y hy => by
    rcases List.mem_cons.mp hy with rfl | hy
    · exact ⟨A.lt, Safe.ne0 r4 w A hN⟩
    · exact r7 y hy, r8⟩

theorem c_nbl1 (l : Launch) (Z : State) (a0 : Array Value) (hw : HW Z a0) (hEL : EW Z a0 [("java/lang/String", 7)]) (h0 : Heap) (hE0 : Ext Z.heap h0)   :
    Con l Z [("java/lang/String", 7)] [] (⟨"java/lang/StringUTF16", "newBytesLength", "(I)I"⟩ : MethodName) jdk_52_method_3_code 1 (some .int) [] (⟨0, 0, 0, 0⟩ : Room) #[(.int (1 : Int32))] h0 (fun v h' => v = (some (.int (2 : Int32))) ∧ h' = h0) := by
  refine Con.mk (plainFor_of_name pn_1) hEL hE0 (fun x hx => by cases hx) ?_
  intro p e s m below meth c T0 hby hml hret hnm W0
  rw [(show entryFrame m #[(.int (1 : Int32))] 1 = mkF m 0 #[.val (.int (1 : Int32))] [] from by first | (simp [entryFrame, mkF, argsToLocals, Value.category]; done) | rfl)]
  refine Go.by (fun t9_ q9_ => XS.iloadN W0.here W0.hx rfl (hb hby dc2_0) rfl q9_) ?_
  refine Go.by (fun t9_ q9_ => XS.ifYes W0.here W0.hx rfl (pc0 := 1) (pc' := 12) rfl (hb hby dc2_1) rfl ((if0 _ _).trans (flt (by decide)).2.1) (by decide) (by decide) q9_) ?_
  refine Go.by (fun t9_ q9_ => XS.iloadN W0.here W0.hx rfl (hb hby dc2_12) rfl q9_) ?_
  show Go _ _ _ _ _ _ _ _ _ (T0.setTop (mkF m 13 #[.val (.int (1 : Int32))] [(.int (1 : Int32))]))
  refine W0.ldcI (wd54 hw) (hb hby dc2_13) ?_
  refine Go.by (fun t9_ q9_ => XS.icmpYes W0.here W0.hx rfl (pc0 := 15) (pc' := 55) rfl (hb hby dc2_15) rfl (tlt (by decide)).1 (by decide) (by decide) q9_) ?_
  refine Go.by (fun t9_ q9_ => XS.iloadN W0.here W0.hx rfl (hb hby dc2_55) rfl (XS.iconst W0.here W0.hx rfl (hb hby dc2_56) (XS.ishl W0.here W0.hx rfl (hb hby dc2_57) rfl q9_))) ?_
  show Go _ _ _ _ _ _ _ _ _ (T0.setTop (mkF m 58 #[.val (.int (1 : Int32))] [(.int ((1 : Int32) <<< ((1 : Int32) &&& 31)))]))
  rw [show ((1 : Int32) <<< ((1 : Int32) &&& 31)) = (2 : Int32) from by decide]
  show Go _ _ _ _ _ _ _ _ _ (T0.setTop (mkF m 58 #[.val (.int (1 : Int32))] [(.int (2 : Int32))]))
  exact W0.retI (by decide) (by decide) hret (hb hby dc2_58) ⟨rfl, rfl⟩
theorem c_nbf1 (l : Launch) (Z : State) (a0 : Array Value) (hw : HW Z a0) (hEL : EW Z a0 [("java/lang/String", 7)]) (h0 : Heap) (hE0 : Ext Z.heap h0)   :
    Con l Z [("java/lang/String", 7)] [] (⟨"java/lang/StringUTF16", "newBytesFor", "(I)[B"⟩ : MethodName) jdk_52_method_2_code 1 (some (.array .byte)) [] (⟨1, 1, 2, 12⟩ : Room) #[(.int (1 : Int32))] h0 (fun v h' => ∃ ta kt, v = some (.ref ta) ∧ Ext h0 h' ∧ Z.heap.size ≤ ta ∧ h0.size = ta ∧ Exa Z h' ta "[B" ∧ Arv Z h' ta kt .byte (2 : Int32) [(.int (0 : Int32)), (.int (0 : Int32))] (.int (0 : Int32))) := by
  refine Con.mk (plainFor_of_name pn_1) hEL hE0 (fun x hx => by cases hx) ?_
  intro p e s m below meth c T0 hby hml hret hnm W0
  rw [(show entryFrame m #[(.int (1 : Int32))] 1 = mkF m 0 #[.val (.int (1 : Int32))] [] from by first | (simp [entryFrame, mkF, argsToLocals, Value.category]; done) | rfl)]
  refine Go.by (fun t9_ q9_ => XS.iloadN W0.here W0.hx rfl (hb hby dc3_0) rfl q9_) ?_
  show Go _ _ _ _ _ _ _ _ _ (T0.setTop (mkF m 1 #[.val (.int (1 : Int32))] [(.int (1 : Int32))]))
  refine W0.callSp (y := (⟨"java/lang/StringUTF16", "newBytesLength", "(I)I"⟩ : MethodName)) (wd51 hw) (wd52 hw) (wd37 hw) (wd53 hw) (by decide) (c_nbl1 l Z a0 hw hEL h0 hE0) all0 (by decide) (by decide) (k' := 0) (n' := 0) rfl rfl (by decide) (by decide) (by rw [hml]; rfl) (argsL := [(.int (1 : Int32))]) (rest := []) (lenOf pd_1 rfl) rfl rfl (Wt := 0) (Nat.le_of_eq rfl) (hb hby dc3_1) ?_
  intro T32 W33
  show Go _ _ _ _ _ _ _ _ _ (T32.setTop (mkF m 4 #[.val (.int (1 : Int32))] [(.int (2 : Int32))]))
  refine W33.newp (aty := .byte) (wd23 hw) (hb hby dc3_4) (by decide) (cap := 2) (by decide) (by decide) (k' := 1) (n' := 2) rfl rfl (by decide) (by decide) (ad := "[B") rfl ?_
  intro T34 h35 ta k_ta W36 E37 g_ta z_ta A_ta V_ta
  have V1_ta : Arv Z h35 ta k_ta .byte (2 : Int32) [(.int (0 : Int32)), (.int (0 : Int32))] (.int (0 : Int32)) := V_ta.pad (pad_rep [] (.int (0 : Int32)) 2)
  show Go _ _ _ _ _ _ _ _ _ (T34.setTop (mkF m 6 #[.val (.int (1 : Int32))] [(.ref ta)]))
  exact W36.retA (by decide) (by decide) hret rfl rfl (hb hby dc3_6) ⟨ta, k_ta, rfl, E37, z_ta, g_ta, A_ta, V1_ta⟩
theorem c_put1_0 (l : Launch) (Z : State) (a0 : Array Value) (hw : HW Z a0) (hEL : EW Z a0 [("java/lang/String", 7)]) (h0 : Heap) (hE0 : Ext Z.heap h0) (ta : Addr) (k_ta : ClassId) (b0 b1 : Value) (cc : Int32) (PSH : PS3 Z) (A_t : Arv Z h0 ta k_ta .byte (2 : Int32) [b0, b1] (.int (0 : Int32))) (z_ta : Z.heap.size ≤ ta) :
    Con l Z [("java/lang/String", 7)] [ta] (⟨"java/lang/StringUTF16", "putChar", "([BII)V"⟩ : MethodName) jdk_52_method_4_code 3 none [] (⟨0, 0, 0, 0⟩ : Room) #[(.ref ta), (.int (0 : Int32)), (.int cc)] h0 (fun v h' => v = none ∧ Keep h0 h' [ta] ∧ Arv Z h' ta k_ta .byte (2 : Int32) [(.int (StrChars.lo8 cc)), (.int (StrChars.hi8 cc))] (.int (0 : Int32))) := by
  refine Con.mk (plainFor_of_name pn_1) hEL hE0 (allS A_t.lt all0) ?_
  intro p e s m below meth c T0 hby hml hret hnm W0
  rw [(show entryFrame m #[(.ref ta), (.int (0 : Int32)), (.int cc)] 3 = mkF m 0 #[.val (.ref ta), .val (.int (0 : Int32)), .val (.int cc)] [] from by first | (simp [entryFrame, mkF, argsToLocals, Value.category]; done) | rfl)]
  refine W0.gets (host := "") (Or.inl (wd58 hw)) Via.refl (PSH.ad.ext W0.old) (hb hby dc4_0) ?_
  intro T38 W39
  refine Go.by (fun t9_ q9_ => XS.ifYes W39.here W39.hx rfl (pc0 := 3) (pc' := 28) rfl (hb hby dc4_3) rfl ((if0 _ _).trans (feq (by decide)).2) (by decide) (by decide) q9_) ?_
  refine Go.by (fun t9_ q9_ => XS.iloadN W39.here W39.hx rfl (hb hby dc4_28) rfl (XS.iconst W39.here W39.hx rfl (hb hby dc4_29) (XS.ishl W39.here W39.hx rfl (hb hby dc4_30) rfl (XS.istoreN W39.here W39.hx rfl (hb hby dc4_31) rfl (l' := #[.val (.ref ta), .val (.int ((0 : Int32) <<< ((1 : Int32) &&& 31))), .val (.int cc)]) rfl q9_)))) ?_
  show Go _ _ _ _ _ _ _ _ _ (T38.setTop (mkF m 32 #[.val (.ref ta), .val (.int ((0 : Int32) <<< ((1 : Int32) &&& 31))), .val (.int cc)] []))
  rw [show ((0 : Int32) <<< ((1 : Int32) &&& 31)) = (0 : Int32) from by decide]
  refine Go.by (fun t9_ q9_ => XS.aloadN W39.here W39.hx rfl (hb hby dc4_32) rfl rfl (XS.iloadN W39.here W39.hx rfl (hb hby dc4_33) rfl (XS.iinc W39.here W39.hx rfl (hb hby dc4_34) rfl (l' := #[.val (.ref ta), .val (.int ((0 : Int32) + (1 : Int32))), .val (.int cc)]) rfl q9_))) ?_
  show Go _ _ _ _ _ _ _ _ _ (T38.setTop (mkF m 37 #[.val (.ref ta), .val (.int (1 : Int32)), .val (.int cc)] [(.int (0 : Int32)), (.ref ta)]))
  refine Go.by (fun t9_ q9_ => XS.iloadN W39.here W39.hx rfl (hb hby dc4_37) rfl q9_) ?_
  show Go _ _ _ _ _ _ _ _ _ (T38.setTop (mkF m 38 #[.val (.ref ta), .val (.int (1 : Int32)), .val (.int cc)] [(.int cc), (.int (0 : Int32)), (.ref ta)]))
  refine W39.gets (host := "") (Or.inl (wd59 hw)) Via.refl (PSH.hi.ext W39.old) (hb hby dc4_38) ?_
  intro T40 W41
  refine Go.by (fun t9_ q9_ => XS.ishr W41.here W41.hx rfl (hb hby dc4_41) rfl (XS.i2b W41.here W41.hx rfl (hb hby dc4_42) rfl q9_)) ?_
  show Go _ _ _ _ _ _ _ _ _ (T40.setTop (mkF m 43 #[.val (.ref ta), .val (.int (1 : Int32)), .val (.int cc)] [(.int ((cc >>> ((0 : Int32) &&& 31)).toInt8.toInt32)), (.int (0 : Int32)), (.ref ta)]))
  refine W41.bast A_t ⟨by decide, by decide⟩ (i := 0) rfl (by simp) (v' := (StrChars.lo8 cc)) (by rw [StrChars.shr0]; simp [nar, StrChars.lo8, lo8_lo8]) z_ta (List.mem_of_getElem? (i := 0) rfl) (hb hby dc4_43) ?_
  intro T42 h43 W44 Wr45 V46_ta'
  have V46_ta : Arv Z h43 ta k_ta .byte (2 : Int32) [(.int (StrChars.lo8 cc)), b1] (.int (0 : Int32)) := V46_ta'
  refine Go.by (fun t9_ q9_ => XS.aloadN W44.here W44.hx rfl (hb hby dc4_44) rfl rfl (XS.iloadN W44.here W44.hx rfl (hb hby dc4_45) rfl (XS.iloadN W44.here W44.hx rfl (hb hby dc4_46) rfl q9_))) ?_
  show Go _ _ _ _ _ _ _ _ _ (T42.setTop (mkF m 47 #[.val (.ref ta), .val (.int (1 : Int32)), .val (.int cc)] [(.int cc), (.int (1 : Int32)), (.ref ta)]))
  refine W44.gets (host := "") (Or.inl (wd60 hw)) Via.refl (PSH.lo.ext W44.old) (hb hby dc4_47) ?_
  intro T47 W48
  refine Go.by (fun t9_ q9_ => XS.ishr W48.here W48.hx rfl (hb hby dc4_50) rfl (XS.i2b W48.here W48.hx rfl (hb hby dc4_51) rfl q9_)) ?_
  show Go _ _ _ _ _ _ _ _ _ (T47.setTop (mkF m 52 #[.val (.ref ta), .val (.int (1 : Int32)), .val (.int cc)] [(.int ((cc >>> ((8 : Int32) &&& 31)).toInt8.toInt32)), (.int (1 : Int32)), (.ref ta)]))
  refine W48.bast V46_ta ⟨by decide, by decide⟩ (i := 1) rfl (by simp) (v' := (StrChars.hi8 cc)) (by simp [nar, StrChars.hi8, StrChars.lo8, lo8_lo8]) z_ta (List.mem_of_getElem? (i := 0) rfl) (hb hby dc4_52) ?_
  intro T49 h50 W51 Wr52 V53_ta'
  have V53_ta : Arv Z h50 ta k_ta .byte (2 : Int32) [(.int (StrChars.lo8 cc)), (.int (StrChars.hi8 cc))] (.int (0 : Int32)) := V53_ta'
  show Go _ _ _ _ _ _ _ _ _ (T49.setTop (mkF m 53 #[.val (.ref ta), .val (.int (1 : Int32)), .val (.int cc)] []))
  exact W51.retV (by decide) (by decide) hret (hb hby dc4_53) ⟨rfl, (((Keep.refl h0 [ta]).wr Wr45 (Or.inl (List.mem_of_getElem? (i := 0) rfl))).wr Wr52 (Or.inl (List.mem_of_getElem? (i := 0) rfl))), V53_ta⟩
theorem c_get1_0 (l : Launch) (Z : State) (a0 : Array Value) (hw : HW Z a0) (hEL : EW Z a0 [("java/lang/String", 7)]) (h0 : Heap) (hE0 : Ext Z.heap h0) (ta : Addr) (k_ta : ClassId) (vs : List Value) (uu vv cc : Int32) (PSH : PS3 Z) (A_t : Arv Z h0 ta k_ta .byte (2 : Int32) vs (.int (0 : Int32))) (hu : vs.getD 0 (.int (0 : Int32)) = .int uu) (hv : vs.getD 1 (.int (0 : Int32)) = .int vv) (hp : StrChars.pairCh uu vv = cc) (r_c : ¬ cc < 0 ∧ ¬ (65535 : Int32) < cc) :
    Con l Z [("java/lang/String", 7)] [] (⟨"java/lang/StringUTF16", "getChar", "([BI)C"⟩ : MethodName) jdk_52_method_5_code 2 (some .char) [] (⟨0, 0, 0, 0⟩ : Room) #[(.ref ta), (.int (0 : Int32))] h0 (fun v h' => v = (some (.int cc)) ∧ h' = h0) := by
  refine Con.mk (plainFor_of_name pn_1) hEL hE0 (fun x hx => by cases hx) ?_
  intro p e s m below meth c T0 hby hml hret hnm W0
  rw [(show entryFrame m #[(.ref ta), (.int (0 : Int32))] 2 = mkF m 0 #[.val (.ref ta), .val (.int (0 : Int32))] [] from by first | (simp [entryFrame, mkF, argsToLocals, Value.category]; done) | rfl)]
  refine W0.gets (host := "") (Or.inl (wd58 hw)) Via.refl (PSH.ad.ext W0.old) (hb hby dc5_0) ?_
  intro T54 W55
  refine Go.by (fun t9_ q9_ => XS.ifYes W55.here W55.hx rfl (pc0 := 3) (pc' := 28) rfl (hb hby dc5_3) rfl ((if0 _ _).trans (feq (by decide)).2) (by decide) (by decide) q9_) ?_
  refine Go.by (fun t9_ q9_ => XS.iloadN W55.here W55.hx rfl (hb hby dc5_28) rfl (XS.iconst W55.here W55.hx rfl (hb hby dc5_29) (XS.ishl W55.here W55.hx rfl (hb hby dc5_30) rfl (XS.istoreN W55.here W55.hx rfl (hb hby dc5_31) rfl (l' := #[.val (.ref ta), .val (.int ((0 : Int32) <<< ((1 : Int32) &&& 31)))]) rfl q9_)))) ?_
  show Go _ _ _ _ _ _ _ _ _ (T54.setTop (mkF m 32 #[.val (.ref ta), .val (.int ((0 : Int32) <<< ((1 : Int32) &&& 31)))] []))
  rw [show ((0 : Int32) <<< ((1 : Int32) &&& 31)) = (0 : Int32) from by decide]
  refine Go.by (fun t9_ q9_ => XS.aloadN W55.here W55.hx rfl (hb hby dc5_32) rfl rfl (XS.iloadN W55.here W55.hx rfl (hb hby dc5_33) rfl (XS.iinc W55.here W55.hx rfl (hb hby dc5_34) rfl (l' := #[.val (.ref ta), .val (.int ((0 : Int32) + (1 : Int32)))]) rfl q9_))) ?_
  show Go _ _ _ _ _ _ _ _ _ (T54.setTop (mkF m 37 #[.val (.ref ta), .val (.int (1 : Int32))] [(.int (0 : Int32)), (.ref ta)]))
  refine W55.bald A_t ⟨by decide, by decide⟩ (v := (.int uu)) hu (hb hby dc5_37) ?_
  refine Go.by (fun t9_ q9_ => XS.sipush W55.here W55.hx rfl (hb hby dc5_38) (XS.iand W55.here W55.hx rfl (hb hby dc5_41) rfl q9_)) ?_
  show Go _ _ _ _ _ _ _ _ _ (T54.setTop (mkF m 42 #[.val (.ref ta), .val (.int (1 : Int32))] [(.int (uu &&& (255 : Int32)))]))
  refine W55.gets (host := "") (Or.inl (wd59 hw)) Via.refl (PSH.hi.ext W55.old) (hb hby dc5_42) ?_
  intro T56 W57
  refine Go.by (fun t9_ q9_ => XS.ishl W57.here W57.hx rfl (hb hby dc5_45) rfl (XS.aloadN W57.here W57.hx rfl (hb hby dc5_46) rfl rfl (XS.iloadN W57.here W57.hx rfl (hb hby dc5_47) rfl q9_))) ?_
  show Go _ _ _ _ _ _ _ _ _ (T56.setTop (mkF m 48 #[.val (.ref ta), .val (.int (1 : Int32))] [(.int (1 : Int32)), (.ref ta), (.int ((uu &&& (255 : Int32)) <<< ((0 : Int32) &&& 31)))]))
  refine W57.bald A_t ⟨by decide, by decide⟩ (v := (.int vv)) hv (hb hby dc5_48) ?_
  refine Go.by (fun t9_ q9_ => XS.sipush W57.here W57.hx rfl (hb hby dc5_49) (XS.iand W57.here W57.hx rfl (hb hby dc5_52) rfl q9_)) ?_
  show Go _ _ _ _ _ _ _ _ _ (T56.setTop (mkF m 53 #[.val (.ref ta), .val (.int (1 : Int32))] [(.int (vv &&& (255 : Int32))), (.int ((uu &&& (255 : Int32)) <<< ((0 : Int32) &&& 31)))]))
  refine W57.gets (host := "") (Or.inl (wd60 hw)) Via.refl (PSH.lo.ext W57.old) (hb hby dc5_53) ?_
  intro T58 W59
  refine Go.by (fun t9_ q9_ => XS.ishl W59.here W59.hx rfl (hb hby dc5_56) rfl (XS.ior W59.here W59.hx rfl (hb hby dc5_57) rfl (XS.i2c W59.here W59.hx rfl (hb hby dc5_58) rfl q9_))) ?_
  show Go _ _ _ _ _ _ _ _ _ (T58.setTop (mkF m 59 #[.val (.ref ta), .val (.int (1 : Int32))] [(.int ((((uu &&& (255 : Int32)) <<< ((0 : Int32) &&& 31)) ||| ((vv &&& (255 : Int32)) <<< ((8 : Int32) &&& 31))).toUInt32.toUInt16.toUInt32.toInt32))]))
  exact W59.retN (z' := cc) (by decide) (by decide) hret (by simp) (hb hby dc5_59) (by show nar .char (StrChars.pairCh uu vv) = cc; rw [hp]; exact nar_id r_c) ⟨rfl, rfl⟩
theorem c_tb1 (l : Launch) (Z : State) (a0 : Array Value) (hw : HW Z a0) (hEL : EW Z a0 [("java/lang/String", 7)]) (h0 : Heap) (hE0 : Ext Z.heap h0) (ba : Addr) (kb : ClassId) (c0 : Int32) (PSH : PS3 Z) (A_b : Arv Z h0 ba kb .char (1 : Int32) [(.int c0)] (.int (0 : Int32))) :
    Con l Z [("java/lang/String", 7)] [] (⟨"java/lang/StringUTF16", "toBytes", "([CII)[B"⟩ : MethodName) jdk_52_method_14_code 5 (some (.array .byte)) [] (⟨2, 1, 2, 24⟩ : Room) #[(.ref ba), (.int (0 : Int32)), (.int (1 : Int32))] h0 (fun v h' => ∃ ta kt, v = some (.ref ta) ∧ Ext h0 h' ∧ Exa Z h' ta "[B" ∧ Arv Z h' ta kt .byte (2 : Int32) [(.int (StrChars.lo8 c0)), (.int (StrChars.hi8 c0))] (.int (0 : Int32))) := by
  refine Con.mk (plainFor_of_name pn_1) hEL hE0 (fun x hx => by cases hx) ?_
  intro p e s m below meth c T0 hby hml hret hnm W0
  rw [(show entryFrame m #[(.ref ba), (.int (0 : Int32)), (.int (1 : Int32))] 5 = mkF m 0 #[.val (.ref ba), .val (.int (0 : Int32)), .val (.int (1 : Int32)), .unset, .unset] [] from by first | (simp [entryFrame, mkF, argsToLocals, Value.category]; done) | rfl)]
  refine Go.by (fun t9_ q9_ => XS.iloadN W0.here W0.hx rfl (hb hby dc6_0) rfl q9_) ?_
  show Go _ _ _ _ _ _ _ _ _ (T0.setTop (mkF m 1 #[.val (.ref ba), .val (.int (0 : Int32)), .val (.int (1 : Int32)), .unset, .unset] [(.int (1 : Int32))]))
  refine W0.callS (y := (⟨"java/lang/StringUTF16", "newBytesFor", "(I)[B"⟩ : MethodName)) (wd48 hw) (wd49 hw) (wd37 hw) (wd50 hw) (by decide) (c_nbf1 l Z a0 hw hEL h0 hE0) all0 (by decide) (by decide) (k' := 1) (n' := 2) rfl rfl (by decide) (by decide) (by rw [hml]; rfl) (argsL := [(.int (1 : Int32))]) (rest := []) (lenOf pd_2 rfl) rfl rfl (Wt := 0) (Nat.le_of_eq rfl) (hb hby dc6_1) ?_
  intro v_ T60 h62 W61 hq_
  obtain ⟨ta, k_ta, rfl, X1, z_ta, g_ta, E_ta, A_ta⟩ := hq_
  have W63 := W61.safe0 (wd22 hw) A_ta (by decide)
  refine Go.by (fun t9_ q9_ => XS.astoreN W63.here W63.hx rfl (hb hby dc6_4) rfl rfl (l' := #[.val (.ref ba), .val (.int (0 : Int32)), .val (.int (1 : Int32)), .val (.ref ta), .unset]) rfl (XS.iconst W63.here W63.hx rfl (hb hby dc6_5) (XS.istore W63.here W63.hx rfl (hb hby dc6_6) rfl (l' := #[.val (.ref ba), .val (.int (0 : Int32)), .val (.int (1 : Int32)), .val (.ref ta), .val (.int (0 : Int32))]) rfl (XS.iload W63.here W63.hx rfl (hb hby dc6_8) rfl (XS.iloadN W63.here W63.hx rfl (hb hby dc6_10) rfl q9_))))) ?_
  refine Go.by (fun t9_ q9_ => XS.icmpNo W63.here W63.hx rfl (hb hby dc6_11) rfl (tlt (by decide)).2.1 q9_) ?_
  refine Go.by (fun t9_ q9_ => XS.aloadN W63.here W63.hx rfl (hb hby dc6_14) rfl rfl (XS.iload W63.here W63.hx rfl (hb hby dc6_15) rfl (XS.aloadN W63.here W63.hx rfl (hb hby dc6_17) rfl rfl (XS.iloadN W63.here W63.hx rfl (hb hby dc6_18) rfl q9_)))) ?_
  show Go _ _ _ _ _ _ _ _ _ (T60.setTop (mkF m 19 #[.val (.ref ba), .val (.int (0 : Int32)), .val (.int (1 : Int32)), .val (.ref ta), .val (.int (0 : Int32))] [(.int (0 : Int32)), (.ref ba), (.int (0 : Int32)), (.ref ta)]))
  refine W63.cald (A_b.ext X1) ⟨by decide, by decide⟩ (v := (.int c0)) rfl (hb hby dc6_19) ?_
  show Go _ _ _ _ _ _ _ _ _ (T60.setTop (mkF m 20 #[.val (.ref ba), .val (.int (0 : Int32)), .val (.int (1 : Int32)), .val (.ref ta), .val (.int (0 : Int32))] [(.int c0), (.int (0 : Int32)), (.ref ta)]))
  refine W63.callS (y := (⟨"java/lang/StringUTF16", "putChar", "([BII)V"⟩ : MethodName)) (wd55 hw) (wd56 hw) (wd37 hw) (wd57 hw) (by decide) (c_put1_0 l Z a0 hw hEL h62 W63.old ta k_ta (.int (0 : Int32)) (.int (0 : Int32)) c0 PSH A_ta z_ta) (allS (List.mem_of_getElem? (i := 0) rfl) all0) (by decide) (by decide) (k' := 1) (n' := 2) rfl rfl (by decide) (by decide) (by rw [hml]; rfl) (argsL := [(.ref ta), (.int (0 : Int32)), (.int c0)]) (rest := []) (lenOf pd_3 rfl) rfl rfl (Wt := 0) (Nat.le_of_eq rfl) (hb hby dc6_20) ?_
  intro v_ T64 h66 W65 hq_
  obtain ⟨rfl, K0, A0_ta⟩ := hq_
  refine Go.by (fun t9_ q9_ => XS.iinc W65.here W65.hx rfl (hb hby dc6_23) rfl (l' := #[.val (.ref ba), .val (.int ((0 : Int32) + (1 : Int32))), .val (.int (1 : Int32)), .val (.ref ta), .val (.int (0 : Int32))]) rfl q9_) ?_
  show Go _ _ _ _ _ _ _ _ _ (T64.setTop (mkF m 26 #[.val (.ref ba), .val (.int (1 : Int32)), .val (.int (1 : Int32)), .val (.ref ta), .val (.int (0 : Int32))] []))
  refine Go.by (fun t9_ q9_ => XS.iinc W65.here W65.hx rfl (hb hby dc6_26) rfl (l' := #[.val (.ref ba), .val (.int (1 : Int32)), .val (.int (1 : Int32)), .val (.ref ta), .val (.int ((0 : Int32) + (1 : Int32)))]) rfl q9_) ?_
  show Go _ _ _ _ _ _ _ _ _ (T64.setTop (mkF m 29 #[.val (.ref ba), .val (.int (1 : Int32)), .val (.int (1 : Int32)), .val (.ref ta), .val (.int (1 : Int32))] []))
  refine Go.by (fun t9_ q9_ => XS.goto W65.here W65.hx rfl (pc0 := 29) (pc' := 8) rfl (hb hby dc6_29) (by decide) (by decide) (XS.iload W65.here W65.hx rfl (hb hby dc6_8) rfl (XS.iloadN W65.here W65.hx rfl (hb hby dc6_10) rfl q9_))) ?_
  refine Go.by (fun t9_ q9_ => XS.icmpYes W65.here W65.hx rfl (pc0 := 11) (pc' := 32) rfl (hb hby dc6_11) rfl (flt (by decide)).2.1 (by decide) (by decide) q9_) ?_
  refine Go.by (fun t9_ q9_ => XS.aloadN W65.here W65.hx rfl (hb hby dc6_32) rfl rfl q9_) ?_
  have X67 : Ext h0 h66 := (Ext.keep' X1 K0 (allS (Nat.le_of_eq g_ta) all0))
  show Go _ _ _ _ _ _ _ _ _ (T64.setTop (mkF m 33 #[.val (.ref ba), .val (.int (1 : Int32)), .val (.int (1 : Int32)), .val (.ref ta), .val (.int (1 : Int32))] [(.ref ta)]))
  exact W65.retA (by decide) (by decide) hret rfl rfl (hb hby dc6_33) ⟨ta, k_ta, rfl, X67, (E_ta.keep K0), A0_ta⟩
theorem c_cm5_1 (l : Launch) (Z : State) (a0 : Array Value) (hw : HW Z a0) (hEL : EW Z a0 [("java/lang/String", 7)]) (h0 : Heap) (hE0 : Ext Z.heap h0) (ba da : Addr) (kb k_da : ClassId) (c0 : Int32) (A_b : Arv Z h0 ba kb .char (1 : Int32) [(.int c0)] (.int (0 : Int32))) (A_d : Arv Z h0 da k_da .byte (1 : Int32) [(.int (0 : Int32))] (.int (0 : Int32))) (z_da : Z.heap.size ≤ da) (nbd : ba ≠ da) (hbig : (255 : Int32) < c0) :
    Con l Z [("java/lang/String", 7)] [da] (⟨"java/lang/StringUTF16", "compress", "([CI[BII)I"⟩ : MethodName) jdk_52_method_21_code 7 (some .int) [] (⟨0, 0, 0, 0⟩ : Room) #[(.ref ba), (.int (0 : Int32)), (.ref da), (.int (0 : Int32)), (.int (1 : Int32))] h0 (fun v h' => ∃ kk : Int32, v = some (.int kk) ∧ Keep h0 h' [da] ∧ (kk = (0 : Int32) ∧ (255 : Int32) < c0)) := by
  refine Con.mk (plainFor_of_name pn_1) hEL hE0 (allS A_d.lt all0) ?_
  intro p e s m below meth c T0 hby hml hret hnm W0
  rw [(show entryFrame m #[(.ref ba), (.int (0 : Int32)), (.ref da), (.int (0 : Int32)), (.int (1 : Int32))] 7 = mkF m 0 #[.val (.ref ba), .val (.int (0 : Int32)), .val (.ref da), .val (.int (0 : Int32)), .val (.int (1 : Int32)), .unset, .unset] [] from by first | (simp [entryFrame, mkF, argsToLocals, Value.category]; done) | rfl)]
  refine Go.by (fun t9_ q9_ => XS.iconst W0.here W0.hx rfl (hb hby dc7_0) (XS.istore W0.here W0.hx rfl (hb hby dc7_1) rfl (l' := #[.val (.ref ba), .val (.int (0 : Int32)), .val (.ref da), .val (.int (0 : Int32)), .val (.int (1 : Int32)), .val (.int (0 : Int32)), .unset]) rfl (XS.iload W0.here W0.hx rfl (hb hby dc7_3) rfl (XS.iload W0.here W0.hx rfl (hb hby dc7_5) rfl q9_)))) ?_
  refine Go.by (fun t9_ q9_ => XS.icmpNo W0.here W0.hx rfl (hb hby dc7_7) rfl (tlt (by decide)).2.1 q9_) ?_
  refine Go.by (fun t9_ q9_ => XS.aloadN W0.here W0.hx rfl (hb hby dc7_10) rfl rfl (XS.iloadN W0.here W0.hx rfl (hb hby dc7_11) rfl q9_)) ?_
  show Go _ _ _ _ _ _ _ _ _ (T0.setTop (mkF m 12 #[.val (.ref ba), .val (.int (0 : Int32)), .val (.ref da), .val (.int (0 : Int32)), .val (.int (1 : Int32)), .val (.int (0 : Int32)), .unset] [(.int (0 : Int32)), (.ref ba)]))
  refine W0.cald A_b ⟨by decide, by decide⟩ (v := (.int c0)) rfl (hb hby dc7_12) ?_
  refine Go.by (fun t9_ q9_ => XS.istore W0.here W0.hx rfl (hb hby dc7_13) rfl (l' := #[.val (.ref ba), .val (.int (0 : Int32)), .val (.ref da), .val (.int (0 : Int32)), .val (.int (1 : Int32)), .val (.int (0 : Int32)), .val (.int c0)]) rfl (XS.iload W0.here W0.hx rfl (hb hby dc7_15) rfl (XS.sipush W0.here W0.hx rfl (hb hby dc7_17) q9_))) ?_
  by_cases e0 : (255 : Int32) < c0
  · refine Go.by (fun t9_ q9_ => XS.icmpNo W0.here W0.hx rfl (hb hby dc7_20) rfl (tlt e0).2.2.2 q9_) ?_
    refine Go.by (fun t9_ q9_ => XS.iload W0.here W0.hx rfl (hb hby dc7_23) rfl q9_) ?_
    show Go _ _ _ _ _ _ _ _ _ (T0.setTop (mkF m 25 #[.val (.ref ba), .val (.int (0 : Int32)), .val (.ref da), .val (.int (0 : Int32)), .val (.int (1 : Int32)), .val (.int (0 : Int32)), .val (.int c0)] [(.int (0 : Int32))]))
    exact W0.retI (by decide) (by decide) hret (hb hby dc7_25) ⟨(0 : Int32), rfl, (Keep.refl h0 [da]), ⟨rfl, e0⟩⟩
  · refine Go.by (fun t9_ q9_ => XS.icmpYes W0.here W0.hx rfl (pc0 := 20) (pc' := 26) rfl (hb hby dc7_20) rfl (flt e0).2.2.2 (by decide) (by decide) q9_) ?_
    refine Go.by (fun t9_ q9_ => XS.aloadN W0.here W0.hx rfl (hb hby dc7_26) rfl rfl (XS.iloadN W0.here W0.hx rfl (hb hby dc7_27) rfl (XS.iload W0.here W0.hx rfl (hb hby dc7_28) rfl (XS.i2b W0.here W0.hx rfl (hb hby dc7_30) rfl q9_)))) ?_
    show Go _ _ _ _ _ _ _ _ _ (T0.setTop (mkF m 31 #[.val (.ref ba), .val (.int (0 : Int32)), .val (.ref da), .val (.int (0 : Int32)), .val (.int (1 : Int32)), .val (.int (0 : Int32)), .val (.int c0)] [(.int (c0.toInt8.toInt32)), (.int (0 : Int32)), (.ref da)]))
    refine W0.bast A_d ⟨by decide, by decide⟩ (i := 0) rfl (by simp) (v' := (StrChars.lo8 c0)) (by simp [nar, StrChars.lo8, lo8_lo8]) z_da (List.mem_of_getElem? (i := 0) rfl) (hb hby dc7_31) ?_
    intro T68 h69 W70 Wr71 V72_da'
    have V72_da : Arv Z h69 da k_da .byte (1 : Int32) [(.int (StrChars.lo8 c0))] (.int (0 : Int32)) := V72_da'
    refine Go.by (fun t9_ q9_ => XS.iinc W70.here W70.hx rfl (hb hby dc7_32) rfl (l' := #[.val (.ref ba), .val (.int ((0 : Int32) + (1 : Int32))), .val (.ref da), .val (.int (0 : Int32)), .val (.int (1 : Int32)), .val (.int (0 : Int32)), .val (.int c0)]) rfl q9_) ?_
    show Go _ _ _ _ _ _ _ _ _ (T68.setTop (mkF m 35 #[.val (.ref ba), .val (.int (1 : Int32)), .val (.ref da), .val (.int (0 : Int32)), .val (.int (1 : Int32)), .val (.int (0 : Int32)), .val (.int c0)] []))
    refine Go.by (fun t9_ q9_ => XS.iinc W70.here W70.hx rfl (hb hby dc7_35) rfl (l' := #[.val (.ref ba), .val (.int (1 : Int32)), .val (.ref da), .val (.int ((0 : Int32) + (1 : Int32))), .val (.int (1 : Int32)), .val (.int (0 : Int32)), .val (.int c0)]) rfl q9_) ?_
    show Go _ _ _ _ _ _ _ _ _ (T68.setTop (mkF m 38 #[.val (.ref ba), .val (.int (1 : Int32)), .val (.ref da), .val (.int (1 : Int32)), .val (.int (1 : Int32)), .val (.int (0 : Int32)), .val (.int c0)] []))
    refine Go.by (fun t9_ q9_ => XS.iinc W70.here W70.hx rfl (hb hby dc7_38) rfl (l' := #[.val (.ref ba), .val (.int (1 : Int32)), .val (.ref da), .val (.int (1 : Int32)), .val (.int (1 : Int32)), .val (.int ((0 : Int32) + (1 : Int32))), .val (.int c0)]) rfl q9_) ?_
    show Go _ _ _ _ _ _ _ _ _ (T68.setTop (mkF m 41 #[.val (.ref ba), .val (.int (1 : Int32)), .val (.ref da), .val (.int (1 : Int32)), .val (.int (1 : Int32)), .val (.int (1 : Int32)), .val (.int c0)] []))
    exact absurd hbig e0
theorem c_cm3_1 (l : Launch) (Z : State) (a0 : Array Value) (hw : HW Z a0) (hEL : EW Z a0 [("java/lang/String", 7)]) (h0 : Heap) (hE0 : Ext Z.heap h0) (ba : Addr) (kb : ClassId) (c0 : Int32) (PSH : PS3 Z) (A_b : Arv Z h0 ba kb .char (1 : Int32) [(.int c0)] (.int (0 : Int32))) (r0 : ¬ c0 < 0 ∧ ¬ (65535 : Int32) < c0) (hbig : (255 : Int32) < c0) :
    Con l Z [("java/lang/String", 7)] [] (⟨"java/lang/StringUTF16", "compress", "([CII)[B"⟩ : MethodName) jdk_52_method_16_code 6 (some (.array .byte)) [] (⟨3, 2, 3, 40⟩ : Room) #[(.ref ba), (.int (0 : Int32)), (.int (1 : Int32))] h0 (fun v h' => ∃ ta kt, v = some (.ref ta) ∧ Ext h0 h' ∧ Exa Z h' ta "[B" ∧ Arv Z h' ta kt .byte (2 : Int32) [(.int (StrChars.lo8 c0)), (.int (StrChars.hi8 c0))] (.int (0 : Int32))) := by
  refine Con.mk (plainFor_of_name pn_1) hEL hE0 (fun x hx => by cases hx) ?_
  intro p e s m below meth c T0 hby hml hret hnm W0
  rw [(show entryFrame m #[(.ref ba), (.int (0 : Int32)), (.int (1 : Int32))] 6 = mkF m 0 #[.val (.ref ba), .val (.int (0 : Int32)), .val (.int (1 : Int32)), .unset, .unset, .unset] [] from by first | (simp [entryFrame, mkF, argsToLocals, Value.category]; done) | rfl)]
  refine Go.by (fun t9_ q9_ => XS.iloadN W0.here W0.hx rfl (hb hby dc8_0) rfl q9_) ?_
  show Go _ _ _ _ _ _ _ _ _ (T0.setTop (mkF m 1 #[.val (.ref ba), .val (.int (0 : Int32)), .val (.int (1 : Int32)), .unset, .unset, .unset] [(.int (1 : Int32))]))
  refine W0.newp (aty := .byte) (wd23 hw) (hb hby dc8_1) (by decide) (cap := 1) (by decide) (by decide) (k' := 1) (n' := 1) rfl rfl (by decide) (by decide) (ad := "[B") rfl ?_
  intro T73 h74 da k_da W75 E76 g_da z_da A_da V_da
  have V1_da : Arv Z h74 da k_da .byte (1 : Int32) [(.int (0 : Int32))] (.int (0 : Int32)) := V_da.pad (pad_rep [] (.int (0 : Int32)) 1)
  refine Go.by (fun t9_ q9_ => XS.astoreN W75.here W75.hx rfl (hb hby dc8_3) rfl rfl (l' := #[.val (.ref ba), .val (.int (0 : Int32)), .val (.int (1 : Int32)), .val (.ref da), .unset, .unset]) rfl (XS.aloadN W75.here W75.hx rfl (hb hby dc8_4) rfl rfl (XS.iloadN W75.here W75.hx rfl (hb hby dc8_5) rfl (XS.aloadN W75.here W75.hx rfl (hb hby dc8_6) rfl rfl (XS.iconst W75.here W75.hx rfl (hb hby dc8_7) (XS.iloadN W75.here W75.hx rfl (hb hby dc8_8) rfl q9_)))))) ?_
  show Go _ _ _ _ _ _ _ _ _ (T73.setTop (mkF m 9 #[.val (.ref ba), .val (.int (0 : Int32)), .val (.int (1 : Int32)), .val (.ref da), .unset, .unset] [(.int (1 : Int32)), (.int (0 : Int32)), (.ref da), (.int (0 : Int32)), (.ref ba)]))
  refine W75.callS (y := (⟨"java/lang/StringUTF16", "compress", "([CI[BII)I"⟩ : MethodName)) (wd39 hw) (wd40 hw) (wd37 hw) (wd41 hw) (by decide) (c_cm5_1 l Z a0 hw hEL h74 W75.old ba da kb k_da c0 (A_b.ext E76) V1_da z_da (Nat.ne_of_lt (Nat.lt_of_lt_of_le A_b.lt (Nat.le_of_eq g_da))) hbig) (allS (List.mem_of_getElem? (i := 0) rfl) all0) (by decide) (by decide) (k' := 1) (n' := 1) rfl rfl (by decide) (by decide) (by rw [hml]; rfl) (argsL := [(.ref ba), (.int (0 : Int32)), (.ref da), (.int (0 : Int32)), (.int (1 : Int32))]) (rest := []) (lenOf pd_4 rfl) rfl rfl (Wt := 0) (Nat.le_of_eq rfl) (hb hby dc8_9) ?_
  intro v_ T77 h79 W78 hq_
  obtain ⟨kk, rfl, K1, hk⟩ := hq_
  refine Go.by (fun t9_ q9_ => XS.istore W78.here W78.hx rfl (hb hby dc8_12) rfl (l' := #[.val (.ref ba), .val (.int (0 : Int32)), .val (.int (1 : Int32)), .val (.ref da), .val (.int kk), .unset]) rfl (XS.iload W78.here W78.hx rfl (hb hby dc8_14) rfl (XS.iloadN W78.here W78.hx rfl (hb hby dc8_16) rfl q9_))) ?_
  rcases hk with ⟨rfl, e0⟩
  · refine Go.by (fun t9_ q9_ => XS.icmpNo W78.here W78.hx rfl (hb hby dc8_17) rfl (feq (by decide)).1 q9_) ?_
    refine Go.by (fun t9_ q9_ => XS.aloadN W78.here W78.hx rfl (hb hby dc8_20) rfl rfl (XS.iloadN W78.here W78.hx rfl (hb hby dc8_21) rfl (XS.iloadN W78.here W78.hx rfl (hb hby dc8_22) rfl q9_))) ?_
    have X80 : Ext h0 h79 := (Ext.keep' E76 K1 (allS (Nat.le_of_eq g_da) all0))
    show Go _ _ _ _ _ _ _ _ _ (T77.setTop (mkF m 23 #[.val (.ref ba), .val (.int (0 : Int32)), .val (.int (1 : Int32)), .val (.ref da), .val (.int (0 : Int32)), .unset] [(.int (1 : Int32)), (.int (0 : Int32)), (.ref ba)]))
    refine W78.callS (y := (⟨"java/lang/StringUTF16", "toBytes", "([CII)[B"⟩ : MethodName)) (wd45 hw) (wd46 hw) (wd37 hw) (wd47 hw) (by decide) (c_tb1 l Z a0 hw hEL h79 W78.old ba kb c0 PSH (A_b.ext X80)) all0 (by decide) (by decide) (k' := 2) (n' := 3) rfl rfl (by decide) (by decide) (by rw [hml]; rfl) (argsL := [(.ref ba), (.int (0 : Int32)), (.int (1 : Int32))]) (rest := []) (lenOf pd_5 rfl) rfl rfl (Wt := 0) (Nat.le_of_eq rfl) (hb hby dc8_23) ?_
    intro v_ T81 h83 W82 hq_
    obtain ⟨ta, k_ta, rfl, X2, E_ta, A_ta⟩ := hq_
    refine Go.by (fun t9_ q9_ => XS.astore W82.here W82.hx rfl (hb hby dc8_26) rfl rfl (l' := #[.val (.ref ba), .val (.int (0 : Int32)), .val (.int (1 : Int32)), .val (.ref da), .val (.int (0 : Int32)), .val (.ref ta)]) rfl (XS.aload W82.here W82.hx rfl (hb hby dc8_28) rfl rfl (XS.iload W82.here W82.hx rfl (hb hby dc8_30) rfl q9_))) ?_
    show Go _ _ _ _ _ _ _ _ _ (T81.setTop (mkF m 32 #[.val (.ref ba), .val (.int (0 : Int32)), .val (.int (1 : Int32)), .val (.ref da), .val (.int (0 : Int32)), .val (.ref ta)] [(.int (0 : Int32)), (.ref ta)]))
    refine W82.callSp (y := (⟨"java/lang/StringUTF16", "getChar", "([BI)C"⟩ : MethodName)) (wd61 hw) (wd62 hw) (wd37 hw) (wd63 hw) (by decide) (c_get1_0 l Z a0 hw hEL h83 W82.old ta k_ta _ _ _ c0 PSH A_ta rfl rfl (StrChars.pair_says r0.1 r0.2) r0) all0 (by decide) (by decide) (k' := 2) (n' := 3) rfl rfl (by decide) (by decide) (by rw [hml]; rfl) (argsL := [(.ref ta), (.int (0 : Int32))]) (rest := []) (lenOf pd_6 rfl) rfl rfl (Wt := 0) (Nat.le_of_eq rfl) (hb hby dc8_32) ?_
    intro T84 W85
    refine Go.by (fun t9_ q9_ => XS.sipush W85.here W85.hx rfl (hb hby dc8_35) q9_) ?_
    refine Go.by (fun t9_ q9_ => XS.icmpYes W85.here W85.hx rfl (pc0 := 38) (pc' := 54) rfl (hb hby dc8_38) rfl (tlt e0).2.2.1 (by decide) (by decide) q9_) ?_
    refine Go.by (fun t9_ q9_ => XS.aload W85.here W85.hx rfl (hb hby dc8_54) rfl rfl q9_) ?_
    have X86 : Ext h0 h83 := (Ext.trans' X80 X2)
    show Go _ _ _ _ _ _ _ _ _ (T84.setTop (mkF m 56 #[.val (.ref ba), .val (.int (0 : Int32)), .val (.int (1 : Int32)), .val (.ref da), .val (.int (0 : Int32)), .val (.ref ta)] [(.ref ta)]))
    exact W85.retA (by decide) (by decide) hret rfl rfl (hb hby dc8_56) ⟨ta, k_ta, rfl, X86, E_ta, A_ta⟩
theorem c_cod1 (l : Launch) (Z : State) (a0 : Array Value) (hw : HW Z a0) (hEL : EW Z a0 [("java/lang/String", 7)]) (h0 : Heap) (hE0 : Ext Z.heap h0) (ta : Addr) (k_ta : ClassId) (vs : List Value) (A_t : Arv Z h0 ta k_ta .byte (2 : Int32) vs (.int (0 : Int32))) :
    Con l Z [("java/lang/String", 7)] [] (⟨"java/lang/StringUTF16", "coderFromArrayLen", "([BI)B"⟩ : MethodName) jdk_52_method_15_code 2 (some .byte) [] (⟨0, 0, 0, 0⟩ : Room) #[(.ref ta), (.int (1 : Int32))] h0 (fun v h' => v = (some (.int 1)) ∧ h' = h0) := by
  refine Con.mk (plainFor_of_name pn_1) hEL hE0 (fun x hx => by cases hx) ?_
  intro p e s m below meth c T0 hby hml hret hnm W0
  rw [(show entryFrame m #[(.ref ta), (.int (1 : Int32))] 2 = mkF m 0 #[.val (.ref ta), .val (.int (1 : Int32))] [] from by first | (simp [entryFrame, mkF, argsToLocals, Value.category]; done) | rfl)]
  refine Go.by (fun t9_ q9_ => XS.iloadN W0.here W0.hx rfl (hb hby dc9_0) rfl (XS.aloadN W0.here W0.hx rfl (hb hby dc9_1) rfl rfl q9_)) ?_
  show Go _ _ _ _ _ _ _ _ _ (T0.setTop (mkF m 2 #[.val (.ref ta), .val (.int (1 : Int32))] [(.ref ta), (.int (1 : Int32))]))
  refine W0.alen A_t (hb hby dc9_2) ?_
  refine Go.by (fun t9_ q9_ => XS.isub W0.here W0.hx rfl (hb hby dc9_3) rfl (XS.bipush W0.here W0.hx rfl (hb hby dc9_4) (XS.iushr W0.here W0.hx rfl (hb hby dc9_6) rfl (XS.i2b W0.here W0.hx rfl (hb hby dc9_7) rfl q9_)))) ?_
  show Go _ _ _ _ _ _ _ _ _ (T0.setTop (mkF m 8 #[.val (.ref ta), .val (.int (1 : Int32))] [(.int (((((1 : Int32) - (2 : Int32)).toUInt32 >>> ((31 : Int32) &&& 31).toUInt32).toInt32).toInt8.toInt32))]))
  exact W0.retN (z' := (1 : Int32)) (by decide) (by decide) hret (by simp) (hb hby dc9_8) (by decide) ⟨rfl, rfl⟩
theorem c_s4_1 (l : Launch) (Z : State) (a0 : Array Value) (hw : HW Z a0) (hEL : EW Z a0 [("java/lang/String", 7)]) (h0 : Heap) (hE0 : Ext Z.heap h0) (x ba : Addr) (kb : ClassId) (c0 G1 : Int32) (E_x : Exa Z h0 x "java/lang/String") (FV : Fld Z h0 x "java/lang/String" "value" "[B" .null) (FC : Fld Z h0 x "java/lang/String" "coder" "B" (.int 0)) (z_x : Z.heap.size ≤ x) (PSH : PS3 Z) (SG1 : Sta Z Z.heap "java/lang/String" "COMPACT_STRINGS" "Z" (.int G1)) (hG : ¬ G1 = 0) (A_b : Arv Z h0 ba kb .char (1 : Int32) [(.int c0)] (.int (0 : Int32))) (r0 : ¬ c0 < 0 ∧ ¬ (65535 : Int32) < c0) (hbig : (255 : Int32) < c0) :
    Con l Z [("java/lang/String", 7)] [x] (⟨"java/lang/String", "<init>", "([CIILjava/lang/Void;)V"⟩ : MethodName) jdk_42_method_149_code 6 none [] (⟨4, 2, 3, 57⟩ : Room) #[(.ref x), (.ref ba), (.int (0 : Int32)), (.int (1 : Int32)), .null] h0 (fun v h' => v = none ∧ Keep h0 h' [x] ∧ ∃ ta kt, Exa Z h' x "java/lang/String" ∧ Fld Z h' x "java/lang/String" "value" "[B" (.ref ta) ∧ Fld Z h' x "java/lang/String" "coder" "B" (.int 1) ∧ Arv Z h' ta kt .byte (2 : Int32) [(.int (StrChars.lo8 c0)), (.int (StrChars.hi8 c0))] (.int (0 : Int32))) := by
  refine Con.mk (plainFor_of_name pn_0) hEL hE0 (allS E_x.lt all0) ?_
  intro p e s m below meth c T0 hby hml hret hnm W0
  rw [(show entryFrame m #[(.ref x), (.ref ba), (.int (0 : Int32)), (.int (1 : Int32)), .null] 6 = mkF m 0 #[.val (.ref x), .val (.ref ba), .val (.int (0 : Int32)), .val (.int (1 : Int32)), .val .null, .unset] [] from by first | (simp [entryFrame, mkF, argsToLocals, Value.category]; done) | rfl)]
  refine Go.by (fun t9_ q9_ => XS.aloadN W0.here W0.hx rfl (hb hby dc0_0) rfl rfl q9_) ?_
  show Go _ _ _ _ _ _ _ _ _ (T0.setTop (mkF m 1 #[.val (.ref x), .val (.ref ba), .val (.int (0 : Int32)), .val (.int (1 : Int32)), .val .null, .unset] [(.ref x)]))
  refine W0.initO (wd19 hw) (wd20 hw) (wd21 hw) (by rw [hml]; rfl) (hb hby dc0_1) (by decide) (Wt := 0) (Nat.le_of_eq rfl) (by decide) ?_
  intro T87 W88
  refine Go.by (fun t9_ q9_ => XS.iloadN W88.here W88.hx rfl (hb hby dc0_4) rfl q9_) ?_
  refine Go.by (fun t9_ q9_ => XS.ifYes W88.here W88.hx rfl (pc0 := 5) (pc' := 27) rfl (hb hby dc0_5) rfl ((if0 _ _).trans (feq (by decide)).2) (by decide) (by decide) q9_) ?_
  show Go _ _ _ _ _ _ _ _ _ (T87.setTop (mkF m 27 #[.val (.ref x), .val (.ref ba), .val (.int (0 : Int32)), .val (.int (1 : Int32)), .val .null, .unset] []))
  refine W88.gets (host := "") (Or.inl (wd34 hw)) Via.refl (SG1.ext W88.old) (hb hby dc0_27) ?_
  intro T89 W90
  refine Go.by (fun t9_ q9_ => XS.ifNo W90.here W90.hx rfl (hb hby dc0_30) rfl ((if0 _ _).trans (feq hG).1) q9_) ?_
  refine Go.by (fun t9_ q9_ => XS.aloadN W90.here W90.hx rfl (hb hby dc0_33) rfl rfl (XS.iloadN W90.here W90.hx rfl (hb hby dc0_34) rfl (XS.iloadN W90.here W90.hx rfl (hb hby dc0_35) rfl q9_))) ?_
  show Go _ _ _ _ _ _ _ _ _ (T89.setTop (mkF m 36 #[.val (.ref x), .val (.ref ba), .val (.int (0 : Int32)), .val (.int (1 : Int32)), .val .null, .unset] [(.int (1 : Int32)), (.int (0 : Int32)), (.ref ba)]))
  refine W90.callS (y := (⟨"java/lang/StringUTF16", "compress", "([CII)[B"⟩ : MethodName)) (wd35 hw) (wd36 hw) (wd37 hw) (wd38 hw) (by decide) (c_cm3_1 l Z a0 hw hEL h0 W90.old ba kb c0 PSH A_b r0 hbig) all0 (by decide) (by decide) (k' := 2) (n' := 3) rfl rfl (by decide) (by decide) (by rw [hml]; rfl) (argsL := [(.ref ba), (.int (0 : Int32)), (.int (1 : Int32))]) (rest := []) (lenOf pd_5 rfl) rfl rfl (Wt := 0) (Nat.le_of_eq rfl) (hb hby dc0_36) ?_
  intro v_ T91 h93 W92 hq_
  obtain ⟨ta, k_ta, rfl, X1, E_ta, A_ta⟩ := hq_
  refine Go.by (fun t9_ q9_ => XS.astore W92.here W92.hx rfl (hb hby dc0_39) rfl rfl (l' := #[.val (.ref x), .val (.ref ba), .val (.int (0 : Int32)), .val (.int (1 : Int32)), .val .null, .val (.ref ta)]) rfl (XS.aloadN W92.here W92.hx rfl (hb hby dc0_41) rfl rfl (XS.aload W92.here W92.hx rfl (hb hby dc0_42) rfl rfl (XS.iloadN W92.here W92.hx rfl (hb hby dc0_44) rfl q9_)))) ?_
  show Go _ _ _ _ _ _ _ _ _ (T91.setTop (mkF m 45 #[.val (.ref x), .val (.ref ba), .val (.int (0 : Int32)), .val (.int (1 : Int32)), .val .null, .val (.ref ta)] [(.int (1 : Int32)), (.ref ta), (.ref x)]))
  refine W92.callSp (y := (⟨"java/lang/StringUTF16", "coderFromArrayLen", "([BI)B"⟩ : MethodName)) (wd42 hw) (wd43 hw) (wd37 hw) (wd44 hw) (by decide) (c_cod1 l Z a0 hw hEL h93 W92.old ta k_ta _ A_ta) all0 (by decide) (by decide) (k' := 2) (n' := 3) rfl rfl (by decide) (by decide) (by rw [hml]; rfl) (argsL := [(.ref ta), (.int (1 : Int32))]) (rest := [(.ref x)]) (lenOf pd_7 rfl) rfl rfl (Wt := 1) (Nat.le_of_eq rfl) (hb hby dc0_45) ?_
  intro T94 W95
  show Go _ _ _ _ _ _ _ _ _ (T94.setTop (mkF m 48 #[.val (.ref x), .val (.ref ba), .val (.int (0 : Int32)), .val (.int (1 : Int32)), .val .null, .val (.ref ta)] [(.int (1 : Int32)), (.ref x)]))
  refine W95.putf (host := "") (Or.inl (wd29 hw)) Via.refl (FC.ext X1) (E_x.ext X1) (Or.inr ⟨(wd25 hw), rfl, hnm⟩) (wd9 hw) (ty := .byte) (by decide) rfl rfl z_x (List.mem_of_getElem? (i := 0) rfl) (hb hby dc0_48) ?_
  intro T96 h97 W98 Wr99
  have F100 : Fld Z h97 x "java/lang/String" "coder" "B" (.int (1 : Int32)) := (FC.ext X1).same Wr99
  have F101 : Fld Z h97 x "java/lang/String" "value" "[B" .null := (FV.ext X1).other Wr99 (Or.inr (slot_ne (Or.inr (wd24 hw)) (Or.inr (wd25 hw)) (by decide) (t := (.array .byte)) (t' := .byte) (by decide) (by decide)))
  have A102 : Exa Z h97 x "java/lang/String" := (E_x.ext X1).wr Wr99
  refine Go.by (fun t9_ q9_ => XS.aloadN W98.here W98.hx rfl (hb hby dc0_51) rfl rfl (XS.aload W98.here W98.hx rfl (hb hby dc0_52) rfl rfl q9_)) ?_
  show Go _ _ _ _ _ _ _ _ _ (T96.setTop (mkF m 54 #[.val (.ref x), .val (.ref ba), .val (.int (0 : Int32)), .val (.int (1 : Int32)), .val .null, .val (.ref ta)] [(.ref ta), (.ref x)]))
  refine W98.putf (host := "") (Or.inl (wd28 hw)) Via.refl F101 A102 (Or.inr ⟨(wd24 hw), rfl, hnm⟩) (wd9 hw) (ty := (.array .byte)) (by decide) rfl rfl z_x (List.mem_of_getElem? (i := 0) rfl) (hb hby dc0_54) ?_
  intro T103 h104 W105 Wr106
  have F107 : Fld Z h104 x "java/lang/String" "value" "[B" (.ref ta) := F101.same Wr106
  have F108 : Fld Z h104 x "java/lang/String" "coder" "B" (.int (1 : Int32)) := F100.other Wr106 (Or.inr (slot_ne (Or.inr (wd25 hw)) (Or.inr (wd24 hw)) (by decide) (t := .byte) (t' := (.array .byte)) (by decide) (by decide)))
  have A109 : Exa Z h104 x "java/lang/String" := A102.wr Wr106
  show Go _ _ _ _ _ _ _ _ _ (T103.setTop (mkF m 57 #[.val (.ref x), .val (.ref ba), .val (.int (0 : Int32)), .val (.int (1 : Int32)), .val .null, .val (.ref ta)] []))
  exact W105.retV (by decide) (by decide) hret (hb hby dc0_57) ⟨rfl, ((((Keep.refl h0 [x]).ext X1).wr Wr99 (Or.inl (List.mem_of_getElem? (i := 0) rfl))).wr Wr106 (Or.inl (List.mem_of_getElem? (i := 0) rfl))), ta, k_ta, A109, F107, F108, ((A_ta.other Wr99 (Exa.ne E_ta (E_x.ext X1) (by decide))).other Wr106 (Exa.ne (E_ta.wr Wr99) A102 (by decide)))⟩
theorem c_s16_1 (l : Launch) (Z : State) (a0 : Array Value) (hw : HW Z a0) (hEL : EW Z a0 [("java/lang/String", 7)]) (h0 : Heap) (hE0 : Ext Z.heap h0) (x ba : Addr) (kb : ClassId) (c0 G1 : Int32) (E_x : Exa Z h0 x "java/lang/String") (FV : Fld Z h0 x "java/lang/String" "value" "[B" .null) (FC : Fld Z h0 x "java/lang/String" "coder" "B" (.int 0)) (z_x : Z.heap.size ≤ x) (PSH : PS3 Z) (SG1 : Sta Z Z.heap "java/lang/String" "COMPACT_STRINGS" "Z" (.int G1)) (hG : ¬ G1 = 0) (A_b : Arv Z h0 ba kb .char (1 : Int32) [(.int c0)] (.int (0 : Int32))) (r0 : ¬ c0 < 0 ∧ ¬ (65535 : Int32) < c0) (hbig : (255 : Int32) < c0) :
    Con l Z [("java/lang/String", 7)] [x] (⟨"java/lang/String", "<init>", "([C)V"⟩ : MethodName) jdk_42_method_3_code 2 none [] (⟨5, 2, 3, 74⟩ : Room) #[(.ref x), (.ref ba)] h0 (fun v h' => v = none ∧ Keep h0 h' [x] ∧ ∃ ta kt, Exa Z h' x "java/lang/String" ∧ Fld Z h' x "java/lang/String" "value" "[B" (.ref ta) ∧ Fld Z h' x "java/lang/String" "coder" "B" (.int 1) ∧ Arv Z h' ta kt .byte (2 : Int32) [(.int (StrChars.lo8 c0)), (.int (StrChars.hi8 c0))] (.int (0 : Int32))) := by
  refine Con.mk (plainFor_of_name pn_0) hEL hE0 (allS E_x.lt all0) ?_
  intro p e s m below meth c T0 hby hml hret hnm W0
  rw [(show entryFrame m #[(.ref x), (.ref ba)] 2 = mkF m 0 #[.val (.ref x), .val (.ref ba)] [] from by first | (simp [entryFrame, mkF, argsToLocals, Value.category]; done) | rfl)]
  refine Go.by (fun t9_ q9_ => XS.aloadN W0.here W0.hx rfl (hb hby dc1_0) rfl rfl (XS.aloadN W0.here W0.hx rfl (hb hby dc1_1) rfl rfl (XS.iconst W0.here W0.hx rfl (hb hby dc1_2) (XS.aloadN W0.here W0.hx rfl (hb hby dc1_3) rfl rfl q9_)))) ?_
  show Go _ _ _ _ _ _ _ _ _ (T0.setTop (mkF m 4 #[.val (.ref x), .val (.ref ba)] [(.ref ba), (.int (0 : Int32)), (.ref ba), (.ref x)]))
  refine W0.alen A_b (hb hby dc1_4) ?_
  refine Go.by (fun t9_ q9_ => XS.aconstNull W0.here W0.hx rfl (hb hby dc1_5) q9_) ?_
  show Go _ _ _ _ _ _ _ _ _ (T0.setTop (mkF m 6 #[.val (.ref x), .val (.ref ba)] [.null, (.int (1 : Int32)), (.int (0 : Int32)), (.ref ba), (.ref x)]))
  refine W0.callI (y := (⟨"java/lang/String", "<init>", "([CIILjava/lang/Void;)V"⟩ : MethodName)) rfl (wd15 hw) (wd16 hw) (wd10 hw) (wd18 hw) (by decide) (a := x) (c_s4_1 l Z a0 hw hEL h0 hE0 x ba kb c0 G1 E_x FV FC z_x PSH SG1 hG A_b r0 hbig) (allS (List.mem_of_getElem? (i := 0) rfl) all0) (by decide) (by decide) (k' := 2) (n' := 3) rfl rfl (by decide) (by decide) (by rw [hml]; rfl) (argsL := [(.ref ba), (.int (0 : Int32)), (.int (1 : Int32)), .null]) (rest := []) (lenOf pd_0 rfl) rfl rfl (Wt := 0) (Nat.le_of_eq rfl) (hb hby dc1_6) ?_
  intro v_ T110 h112 W111 hq_
  obtain ⟨rfl, K1, S1⟩ := hq_
  show Go _ _ _ _ _ _ _ _ _ (T110.setTop (mkF m 9 #[.val (.ref x), .val (.ref ba)] []))
  exact W111.retV (by decide) (by decide) hret (hb hby dc1_9) ⟨rfl, K1, S1⟩
theorem c_nbl2 (l : Launch) (Z : State) (a0 : Array Value) (hw : HW Z a0) (hEL : EW Z a0 [("java/lang/String", 7)]) (h0 : Heap) (hE0 : Ext Z.heap h0)   :
    Con l Z [("java/lang/String", 7)] [] (⟨"java/lang/StringUTF16", "newBytesLength", "(I)I"⟩ : MethodName) jdk_52_method_3_code 1 (some .int) [] (⟨0, 0, 0, 0⟩ : Room) #[(.int (2 : Int32))] h0 (fun v h' => v = (some (.int (4 : Int32))) ∧ h' = h0) := by
  refine Con.mk (plainFor_of_name pn_1) hEL hE0 (fun x hx => by cases hx) ?_
  intro p e s m below meth c T0 hby hml hret hnm W0
  rw [(show entryFrame m #[(.int (2 : Int32))] 1 = mkF m 0 #[.val (.int (2 : Int32))] [] from by first | (simp [entryFrame, mkF, argsToLocals, Value.category]; done) | rfl)]
  refine Go.by (fun t9_ q9_ => XS.iloadN W0.here W0.hx rfl (hb hby dc2_0) rfl q9_) ?_
  refine Go.by (fun t9_ q9_ => XS.ifYes W0.here W0.hx rfl (pc0 := 1) (pc' := 12) rfl (hb hby dc2_1) rfl ((if0 _ _).trans (flt (by decide)).2.1) (by decide) (by decide) q9_) ?_
  refine Go.by (fun t9_ q9_ => XS.iloadN W0.here W0.hx rfl (hb hby dc2_12) rfl q9_) ?_
  show Go _ _ _ _ _ _ _ _ _ (T0.setTop (mkF m 13 #[.val (.int (2 : Int32))] [(.int (2 : Int32))]))
  refine W0.ldcI (wd54 hw) (hb hby dc2_13) ?_
  refine Go.by (fun t9_ q9_ => XS.icmpYes W0.here W0.hx rfl (pc0 := 15) (pc' := 55) rfl (hb hby dc2_15) rfl (tlt (by decide)).1 (by decide) (by decide) q9_) ?_
  refine Go.by (fun t9_ q9_ => XS.iloadN W0.here W0.hx rfl (hb hby dc2_55) rfl (XS.iconst W0.here W0.hx rfl (hb hby dc2_56) (XS.ishl W0.here W0.hx rfl (hb hby dc2_57) rfl q9_))) ?_
  show Go _ _ _ _ _ _ _ _ _ (T0.setTop (mkF m 58 #[.val (.int (2 : Int32))] [(.int ((2 : Int32) <<< ((1 : Int32) &&& 31)))]))
  rw [show ((2 : Int32) <<< ((1 : Int32) &&& 31)) = (4 : Int32) from by decide]
  show Go _ _ _ _ _ _ _ _ _ (T0.setTop (mkF m 58 #[.val (.int (2 : Int32))] [(.int (4 : Int32))]))
  exact W0.retI (by decide) (by decide) hret (hb hby dc2_58) ⟨rfl, rfl⟩
theorem c_nbf2 (l : Launch) (Z : State) (a0 : Array Value) (hw : HW Z a0) (hEL : EW Z a0 [("java/lang/String", 7)]) (h0 : Heap) (hE0 : Ext Z.heap h0)   :
    Con l Z [("java/lang/String", 7)] [] (⟨"java/lang/StringUTF16", "newBytesFor", "(I)[B"⟩ : MethodName) jdk_52_method_2_code 1 (some (.array .byte)) [] (⟨1, 1, 4, 12⟩ : Room) #[(.int (2 : Int32))] h0 (fun v h' => ∃ ta kt, v = some (.ref ta) ∧ Ext h0 h' ∧ Z.heap.size ≤ ta ∧ h0.size = ta ∧ Exa Z h' ta "[B" ∧ Arv Z h' ta kt .byte (4 : Int32) [(.int (0 : Int32)), (.int (0 : Int32)), (.int (0 : Int32)), (.int (0 : Int32))] (.int (0 : Int32))) := by
  refine Con.mk (plainFor_of_name pn_1) hEL hE0 (fun x hx => by cases hx) ?_
  intro p e s m below meth c T0 hby hml hret hnm W0
  rw [(show entryFrame m #[(.int (2 : Int32))] 1 = mkF m 0 #[.val (.int (2 : Int32))] [] from by first | (simp [entryFrame, mkF, argsToLocals, Value.category]; done) | rfl)]
  refine Go.by (fun t9_ q9_ => XS.iloadN W0.here W0.hx rfl (hb hby dc3_0) rfl q9_) ?_
  show Go _ _ _ _ _ _ _ _ _ (T0.setTop (mkF m 1 #[.val (.int (2 : Int32))] [(.int (2 : Int32))]))
  refine W0.callSp (y := (⟨"java/lang/StringUTF16", "newBytesLength", "(I)I"⟩ : MethodName)) (wd51 hw) (wd52 hw) (wd37 hw) (wd53 hw) (by decide) (c_nbl2 l Z a0 hw hEL h0 hE0) all0 (by decide) (by decide) (k' := 0) (n' := 0) rfl rfl (by decide) (by decide) (by rw [hml]; rfl) (argsL := [(.int (2 : Int32))]) (rest := []) (lenOf pd_1 rfl) rfl rfl (Wt := 0) (Nat.le_of_eq rfl) (hb hby dc3_1) ?_
  intro T113 W114
  show Go _ _ _ _ _ _ _ _ _ (T113.setTop (mkF m 4 #[.val (.int (2 : Int32))] [(.int (4 : Int32))]))
  refine W114.newp (aty := .byte) (wd23 hw) (hb hby dc3_4) (by decide) (cap := 4) (by decide) (by decide) (k' := 1) (n' := 4) rfl rfl (by decide) (by decide) (ad := "[B") rfl ?_
  intro T115 h116 ta k_ta W117 E118 g_ta z_ta A_ta V_ta
  have V1_ta : Arv Z h116 ta k_ta .byte (4 : Int32) [(.int (0 : Int32)), (.int (0 : Int32)), (.int (0 : Int32)), (.int (0 : Int32))] (.int (0 : Int32)) := V_ta.pad (pad_rep [] (.int (0 : Int32)) 4)
  show Go _ _ _ _ _ _ _ _ _ (T115.setTop (mkF m 6 #[.val (.int (2 : Int32))] [(.ref ta)]))
  exact W117.retA (by decide) (by decide) hret rfl rfl (hb hby dc3_6) ⟨ta, k_ta, rfl, E118, z_ta, g_ta, A_ta, V1_ta⟩
theorem c_put2_0 (l : Launch) (Z : State) (a0 : Array Value) (hw : HW Z a0) (hEL : EW Z a0 [("java/lang/String", 7)]) (h0 : Heap) (hE0 : Ext Z.heap h0) (ta : Addr) (k_ta : ClassId) (b0 b1 b2 b3 : Value) (cc : Int32) (PSH : PS3 Z) (A_t : Arv Z h0 ta k_ta .byte (4 : Int32) [b0, b1, b2, b3] (.int (0 : Int32))) (z_ta : Z.heap.size ≤ ta) :
    Con l Z [("java/lang/String", 7)] [ta] (⟨"java/lang/StringUTF16", "putChar", "([BII)V"⟩ : MethodName) jdk_52_method_4_code 3 none [] (⟨0, 0, 0, 0⟩ : Room) #[(.ref ta), (.int (0 : Int32)), (.int cc)] h0 (fun v h' => v = none ∧ Keep h0 h' [ta] ∧ Arv Z h' ta k_ta .byte (4 : Int32) [(.int (StrChars.lo8 cc)), (.int (StrChars.hi8 cc)), b2, b3] (.int (0 : Int32))) := by
  refine Con.mk (plainFor_of_name pn_1) hEL hE0 (allS A_t.lt all0) ?_
  intro p e s m below meth c T0 hby hml hret hnm W0
  rw [(show entryFrame m #[(.ref ta), (.int (0 : Int32)), (.int cc)] 3 = mkF m 0 #[.val (.ref ta), .val (.int (0 : Int32)), .val (.int cc)] [] from by first | (simp [entryFrame, mkF, argsToLocals, Value.category]; done) | rfl)]
  refine W0.gets (host := "") (Or.inl (wd58 hw)) Via.refl (PSH.ad.ext W0.old) (hb hby dc4_0) ?_
  intro T119 W120
  refine Go.by (fun t9_ q9_ => XS.ifYes W120.here W120.hx rfl (pc0 := 3) (pc' := 28) rfl (hb hby dc4_3) rfl ((if0 _ _).trans (feq (by decide)).2) (by decide) (by decide) q9_) ?_
  refine Go.by (fun t9_ q9_ => XS.iloadN W120.here W120.hx rfl (hb hby dc4_28) rfl (XS.iconst W120.here W120.hx rfl (hb hby dc4_29) (XS.ishl W120.here W120.hx rfl (hb hby dc4_30) rfl (XS.istoreN W120.here W120.hx rfl (hb hby dc4_31) rfl (l' := #[.val (.ref ta), .val (.int ((0 : Int32) <<< ((1 : Int32) &&& 31))), .val (.int cc)]) rfl q9_)))) ?_
  show Go _ _ _ _ _ _ _ _ _ (T119.setTop (mkF m 32 #[.val (.ref ta), .val (.int ((0 : Int32) <<< ((1 : Int32) &&& 31))), .val (.int cc)] []))
  rw [show ((0 : Int32) <<< ((1 : Int32) &&& 31)) = (0 : Int32) from by decide]
  refine Go.by (fun t9_ q9_ => XS.aloadN W120.here W120.hx rfl (hb hby dc4_32) rfl rfl (XS.iloadN W120.here W120.hx rfl (hb hby dc4_33) rfl (XS.iinc W120.here W120.hx rfl (hb hby dc4_34) rfl (l' := #[.val (.ref ta), .val (.int ((0 : Int32) + (1 : Int32))), .val (.int cc)]) rfl q9_))) ?_
  show Go _ _ _ _ _ _ _ _ _ (T119.setTop (mkF m 37 #[.val (.ref ta), .val (.int (1 : Int32)), .val (.int cc)] [(.int (0 : Int32)), (.ref ta)]))
  refine Go.by (fun t9_ q9_ => XS.iloadN W120.here W120.hx rfl (hb hby dc4_37) rfl q9_) ?_
  show Go _ _ _ _ _ _ _ _ _ (T119.setTop (mkF m 38 #[.val (.ref ta), .val (.int (1 : Int32)), .val (.int cc)] [(.int cc), (.int (0 : Int32)), (.ref ta)]))
  refine W120.gets (host := "") (Or.inl (wd59 hw)) Via.refl (PSH.hi.ext W120.old) (hb hby dc4_38) ?_
  intro T121 W122
  refine Go.by (fun t9_ q9_ => XS.ishr W122.here W122.hx rfl (hb hby dc4_41) rfl (XS.i2b W122.here W122.hx rfl (hb hby dc4_42) rfl q9_)) ?_
  show Go _ _ _ _ _ _ _ _ _ (T121.setTop (mkF m 43 #[.val (.ref ta), .val (.int (1 : Int32)), .val (.int cc)] [(.int ((cc >>> ((0 : Int32) &&& 31)).toInt8.toInt32)), (.int (0 : Int32)), (.ref ta)]))
  refine W122.bast A_t ⟨by decide, by decide⟩ (i := 0) rfl (by simp) (v' := (StrChars.lo8 cc)) (by rw [StrChars.shr0]; simp [nar, StrChars.lo8, lo8_lo8]) z_ta (List.mem_of_getElem? (i := 0) rfl) (hb hby dc4_43) ?_
  intro T123 h124 W125 Wr126 V127_ta'
  have V127_ta : Arv Z h124 ta k_ta .byte (4 : Int32) [(.int (StrChars.lo8 cc)), b1, b2, b3] (.int (0 : Int32)) := V127_ta'
  refine Go.by (fun t9_ q9_ => XS.aloadN W125.here W125.hx rfl (hb hby dc4_44) rfl rfl (XS.iloadN W125.here W125.hx rfl (hb hby dc4_45) rfl (XS.iloadN W125.here W125.hx rfl (hb hby dc4_46) rfl q9_))) ?_
  show Go _ _ _ _ _ _ _ _ _ (T123.setTop (mkF m 47 #[.val (.ref ta), .val (.int (1 : Int32)), .val (.int cc)] [(.int cc), (.int (1 : Int32)), (.ref ta)]))
  refine W125.gets (host := "") (Or.inl (wd60 hw)) Via.refl (PSH.lo.ext W125.old) (hb hby dc4_47) ?_
  intro T128 W129
  refine Go.by (fun t9_ q9_ => XS.ishr W129.here W129.hx rfl (hb hby dc4_50) rfl (XS.i2b W129.here W129.hx rfl (hb hby dc4_51) rfl q9_)) ?_
  show Go _ _ _ _ _ _ _ _ _ (T128.setTop (mkF m 52 #[.val (.ref ta), .val (.int (1 : Int32)), .val (.int cc)] [(.int ((cc >>> ((8 : Int32) &&& 31)).toInt8.toInt32)), (.int (1 : Int32)), (.ref ta)]))
  refine W129.bast V127_ta ⟨by decide, by decide⟩ (i := 1) rfl (by simp) (v' := (StrChars.hi8 cc)) (by simp [nar, StrChars.hi8, StrChars.lo8, lo8_lo8]) z_ta (List.mem_of_getElem? (i := 0) rfl) (hb hby dc4_52) ?_
  intro T130 h131 W132 Wr133 V134_ta'
  have V134_ta : Arv Z h131 ta k_ta .byte (4 : Int32) [(.int (StrChars.lo8 cc)), (.int (StrChars.hi8 cc)), b2, b3] (.int (0 : Int32)) := V134_ta'
  show Go _ _ _ _ _ _ _ _ _ (T130.setTop (mkF m 53 #[.val (.ref ta), .val (.int (1 : Int32)), .val (.int cc)] []))
  exact W132.retV (by decide) (by decide) hret (hb hby dc4_53) ⟨rfl, (((Keep.refl h0 [ta]).wr Wr126 (Or.inl (List.mem_of_getElem? (i := 0) rfl))).wr Wr133 (Or.inl (List.mem_of_getElem? (i := 0) rfl))), V134_ta⟩
theorem c_get2_0 (l : Launch) (Z : State) (a0 : Array Value) (hw : HW Z a0) (hEL : EW Z a0 [("java/lang/String", 7)]) (h0 : Heap) (hE0 : Ext Z.heap h0) (ta : Addr) (k_ta : ClassId) (vs : List Value) (uu vv cc : Int32) (PSH : PS3 Z) (A_t : Arv Z h0 ta k_ta .byte (4 : Int32) vs (.int (0 : Int32))) (hu : vs.getD 0 (.int (0 : Int32)) = .int uu) (hv : vs.getD 1 (.int (0 : Int32)) = .int vv) (hp : StrChars.pairCh uu vv = cc) (r_c : ¬ cc < 0 ∧ ¬ (65535 : Int32) < cc) :
    Con l Z [("java/lang/String", 7)] [] (⟨"java/lang/StringUTF16", "getChar", "([BI)C"⟩ : MethodName) jdk_52_method_5_code 2 (some .char) [] (⟨0, 0, 0, 0⟩ : Room) #[(.ref ta), (.int (0 : Int32))] h0 (fun v h' => v = (some (.int cc)) ∧ h' = h0) := by
  refine Con.mk (plainFor_of_name pn_1) hEL hE0 (fun x hx => by cases hx) ?_
  intro p e s m below meth c T0 hby hml hret hnm W0
  rw [(show entryFrame m #[(.ref ta), (.int (0 : Int32))] 2 = mkF m 0 #[.val (.ref ta), .val (.int (0 : Int32))] [] from by first | (simp [entryFrame, mkF, argsToLocals, Value.category]; done) | rfl)]
  refine W0.gets (host := "") (Or.inl (wd58 hw)) Via.refl (PSH.ad.ext W0.old) (hb hby dc5_0) ?_
  intro T135 W136
  refine Go.by (fun t9_ q9_ => XS.ifYes W136.here W136.hx rfl (pc0 := 3) (pc' := 28) rfl (hb hby dc5_3) rfl ((if0 _ _).trans (feq (by decide)).2) (by decide) (by decide) q9_) ?_
  refine Go.by (fun t9_ q9_ => XS.iloadN W136.here W136.hx rfl (hb hby dc5_28) rfl (XS.iconst W136.here W136.hx rfl (hb hby dc5_29) (XS.ishl W136.here W136.hx rfl (hb hby dc5_30) rfl (XS.istoreN W136.here W136.hx rfl (hb hby dc5_31) rfl (l' := #[.val (.ref ta), .val (.int ((0 : Int32) <<< ((1 : Int32) &&& 31)))]) rfl q9_)))) ?_
  show Go _ _ _ _ _ _ _ _ _ (T135.setTop (mkF m 32 #[.val (.ref ta), .val (.int ((0 : Int32) <<< ((1 : Int32) &&& 31)))] []))
  rw [show ((0 : Int32) <<< ((1 : Int32) &&& 31)) = (0 : Int32) from by decide]
  refine Go.by (fun t9_ q9_ => XS.aloadN W136.here W136.hx rfl (hb hby dc5_32) rfl rfl (XS.iloadN W136.here W136.hx rfl (hb hby dc5_33) rfl (XS.iinc W136.here W136.hx rfl (hb hby dc5_34) rfl (l' := #[.val (.ref ta), .val (.int ((0 : Int32) + (1 : Int32)))]) rfl q9_))) ?_
  show Go _ _ _ _ _ _ _ _ _ (T135.setTop (mkF m 37 #[.val (.ref ta), .val (.int (1 : Int32))] [(.int (0 : Int32)), (.ref ta)]))
  refine W136.bald A_t ⟨by decide, by decide⟩ (v := (.int uu)) hu (hb hby dc5_37) ?_
  refine Go.by (fun t9_ q9_ => XS.sipush W136.here W136.hx rfl (hb hby dc5_38) (XS.iand W136.here W136.hx rfl (hb hby dc5_41) rfl q9_)) ?_
  show Go _ _ _ _ _ _ _ _ _ (T135.setTop (mkF m 42 #[.val (.ref ta), .val (.int (1 : Int32))] [(.int (uu &&& (255 : Int32)))]))
  refine W136.gets (host := "") (Or.inl (wd59 hw)) Via.refl (PSH.hi.ext W136.old) (hb hby dc5_42) ?_
  intro T137 W138
  refine Go.by (fun t9_ q9_ => XS.ishl W138.here W138.hx rfl (hb hby dc5_45) rfl (XS.aloadN W138.here W138.hx rfl (hb hby dc5_46) rfl rfl (XS.iloadN W138.here W138.hx rfl (hb hby dc5_47) rfl q9_))) ?_
  show Go _ _ _ _ _ _ _ _ _ (T137.setTop (mkF m 48 #[.val (.ref ta), .val (.int (1 : Int32))] [(.int (1 : Int32)), (.ref ta), (.int ((uu &&& (255 : Int32)) <<< ((0 : Int32) &&& 31)))]))
  refine W138.bald A_t ⟨by decide, by decide⟩ (v := (.int vv)) hv (hb hby dc5_48) ?_
  refine Go.by (fun t9_ q9_ => XS.sipush W138.here W138.hx rfl (hb hby dc5_49) (XS.iand W138.here W138.hx rfl (hb hby dc5_52) rfl q9_)) ?_
  show Go _ _ _ _ _ _ _ _ _ (T137.setTop (mkF m 53 #[.val (.ref ta), .val (.int (1 : Int32))] [(.int (vv &&& (255 : Int32))), (.int ((uu &&& (255 : Int32)) <<< ((0 : Int32) &&& 31)))]))
  refine W138.gets (host := "") (Or.inl (wd60 hw)) Via.refl (PSH.lo.ext W138.old) (hb hby dc5_53) ?_
  intro T139 W140
  refine Go.by (fun t9_ q9_ => XS.ishl W140.here W140.hx rfl (hb hby dc5_56) rfl (XS.ior W140.here W140.hx rfl (hb hby dc5_57) rfl (XS.i2c W140.here W140.hx rfl (hb hby dc5_58) rfl q9_))) ?_
  show Go _ _ _ _ _ _ _ _ _ (T139.setTop (mkF m 59 #[.val (.ref ta), .val (.int (1 : Int32))] [(.int ((((uu &&& (255 : Int32)) <<< ((0 : Int32) &&& 31)) ||| ((vv &&& (255 : Int32)) <<< ((8 : Int32) &&& 31))).toUInt32.toUInt16.toUInt32.toInt32))]))
  exact W140.retN (z' := cc) (by decide) (by decide) hret (by simp) (hb hby dc5_59) (by show nar .char (StrChars.pairCh uu vv) = cc; rw [hp]; exact nar_id r_c) ⟨rfl, rfl⟩
theorem c_put2_1 (l : Launch) (Z : State) (a0 : Array Value) (hw : HW Z a0) (hEL : EW Z a0 [("java/lang/String", 7)]) (h0 : Heap) (hE0 : Ext Z.heap h0) (ta : Addr) (k_ta : ClassId) (b0 b1 b2 b3 : Value) (cc : Int32) (PSH : PS3 Z) (A_t : Arv Z h0 ta k_ta .byte (4 : Int32) [b0, b1, b2, b3] (.int (0 : Int32))) (z_ta : Z.heap.size ≤ ta) :
    Con l Z [("java/lang/String", 7)] [ta] (⟨"java/lang/StringUTF16", "putChar", "([BII)V"⟩ : MethodName) jdk_52_method_4_code 3 none [] (⟨0, 0, 0, 0⟩ : Room) #[(.ref ta), (.int (1 : Int32)), (.int cc)] h0 (fun v h' => v = none ∧ Keep h0 h' [ta] ∧ Arv Z h' ta k_ta .byte (4 : Int32) [b0, b1, (.int (StrChars.lo8 cc)), (.int (StrChars.hi8 cc))] (.int (0 : Int32))) := by
  refine Con.mk (plainFor_of_name pn_1) hEL hE0 (allS A_t.lt all0) ?_
  intro p e s m below meth c T0 hby hml hret hnm W0
  rw [(show entryFrame m #[(.ref ta), (.int (1 : Int32)), (.int cc)] 3 = mkF m 0 #[.val (.ref ta), .val (.int (1 : Int32)), .val (.int cc)] [] from by first | (simp [entryFrame, mkF, argsToLocals, Value.category]; done) | rfl)]
  refine W0.gets (host := "") (Or.inl (wd58 hw)) Via.refl (PSH.ad.ext W0.old) (hb hby dc4_0) ?_
  intro T141 W142
  refine Go.by (fun t9_ q9_ => XS.ifYes W142.here W142.hx rfl (pc0 := 3) (pc' := 28) rfl (hb hby dc4_3) rfl ((if0 _ _).trans (feq (by decide)).2) (by decide) (by decide) q9_) ?_
  refine Go.by (fun t9_ q9_ => XS.iloadN W142.here W142.hx rfl (hb hby dc4_28) rfl (XS.iconst W142.here W142.hx rfl (hb hby dc4_29) (XS.ishl W142.here W142.hx rfl (hb hby dc4_30) rfl (XS.istoreN W142.here W142.hx rfl (hb hby dc4_31) rfl (l' := #[.val (.ref ta), .val (.int ((1 : Int32) <<< ((1 : Int32) &&& 31))), .val (.int cc)]) rfl q9_)))) ?_
  show Go _ _ _ _ _ _ _ _ _ (T141.setTop (mkF m 32 #[.val (.ref ta), .val (.int ((1 : Int32) <<< ((1 : Int32) &&& 31))), .val (.int cc)] []))
  rw [show ((1 : Int32) <<< ((1 : Int32) &&& 31)) = (2 : Int32) from by decide]
  refine Go.by (fun t9_ q9_ => XS.aloadN W142.here W142.hx rfl (hb hby dc4_32) rfl rfl (XS.iloadN W142.here W142.hx rfl (hb hby dc4_33) rfl (XS.iinc W142.here W142.hx rfl (hb hby dc4_34) rfl (l' := #[.val (.ref ta), .val (.int ((2 : Int32) + (1 : Int32))), .val (.int cc)]) rfl q9_))) ?_
  show Go _ _ _ _ _ _ _ _ _ (T141.setTop (mkF m 37 #[.val (.ref ta), .val (.int (3 : Int32)), .val (.int cc)] [(.int (2 : Int32)), (.ref ta)]))
  refine Go.by (fun t9_ q9_ => XS.iloadN W142.here W142.hx rfl (hb hby dc4_37) rfl q9_) ?_
  show Go _ _ _ _ _ _ _ _ _ (T141.setTop (mkF m 38 #[.val (.ref ta), .val (.int (3 : Int32)), .val (.int cc)] [(.int cc), (.int (2 : Int32)), (.ref ta)]))
  refine W142.gets (host := "") (Or.inl (wd59 hw)) Via.refl (PSH.hi.ext W142.old) (hb hby dc4_38) ?_
  intro T143 W144
  refine Go.by (fun t9_ q9_ => XS.ishr W144.here W144.hx rfl (hb hby dc4_41) rfl (XS.i2b W144.here W144.hx rfl (hb hby dc4_42) rfl q9_)) ?_
  show Go _ _ _ _ _ _ _ _ _ (T143.setTop (mkF m 43 #[.val (.ref ta), .val (.int (3 : Int32)), .val (.int cc)] [(.int ((cc >>> ((0 : Int32) &&& 31)).toInt8.toInt32)), (.int (2 : Int32)), (.ref ta)]))
  refine W144.bast A_t ⟨by decide, by decide⟩ (i := 2) rfl (by simp) (v' := (StrChars.lo8 cc)) (by rw [StrChars.shr0]; simp [nar, StrChars.lo8, lo8_lo8]) z_ta (List.mem_of_getElem? (i := 0) rfl) (hb hby dc4_43) ?_
  intro T145 h146 W147 Wr148 V149_ta'
  have V149_ta : Arv Z h146 ta k_ta .byte (4 : Int32) [b0, b1, (.int (StrChars.lo8 cc)), b3] (.int (0 : Int32)) := V149_ta'
  refine Go.by (fun t9_ q9_ => XS.aloadN W147.here W147.hx rfl (hb hby dc4_44) rfl rfl (XS.iloadN W147.here W147.hx rfl (hb hby dc4_45) rfl (XS.iloadN W147.here W147.hx rfl (hb hby dc4_46) rfl q9_))) ?_
  show Go _ _ _ _ _ _ _ _ _ (T145.setTop (mkF m 47 #[.val (.ref ta), .val (.int (3 : Int32)), .val (.int cc)] [(.int cc), (.int (3 : Int32)), (.ref ta)]))
  refine W147.gets (host := "") (Or.inl (wd60 hw)) Via.refl (PSH.lo.ext W147.old) (hb hby dc4_47) ?_
  intro T150 W151
  refine Go.by (fun t9_ q9_ => XS.ishr W151.here W151.hx rfl (hb hby dc4_50) rfl (XS.i2b W151.here W151.hx rfl (hb hby dc4_51) rfl q9_)) ?_
  show Go _ _ _ _ _ _ _ _ _ (T150.setTop (mkF m 52 #[.val (.ref ta), .val (.int (3 : Int32)), .val (.int cc)] [(.int ((cc >>> ((8 : Int32) &&& 31)).toInt8.toInt32)), (.int (3 : Int32)), (.ref ta)]))
  refine W151.bast V149_ta ⟨by decide, by decide⟩ (i := 3) rfl (by simp) (v' := (StrChars.hi8 cc)) (by simp [nar, StrChars.hi8, StrChars.lo8, lo8_lo8]) z_ta (List.mem_of_getElem? (i := 0) rfl) (hb hby dc4_52) ?_
  intro T152 h153 W154 Wr155 V156_ta'
  have V156_ta : Arv Z h153 ta k_ta .byte (4 : Int32) [b0, b1, (.int (StrChars.lo8 cc)), (.int (StrChars.hi8 cc))] (.int (0 : Int32)) := V156_ta'
  show Go _ _ _ _ _ _ _ _ _ (T152.setTop (mkF m 53 #[.val (.ref ta), .val (.int (3 : Int32)), .val (.int cc)] []))
  exact W154.retV (by decide) (by decide) hret (hb hby dc4_53) ⟨rfl, (((Keep.refl h0 [ta]).wr Wr148 (Or.inl (List.mem_of_getElem? (i := 0) rfl))).wr Wr155 (Or.inl (List.mem_of_getElem? (i := 0) rfl))), V156_ta⟩
theorem c_get2_1 (l : Launch) (Z : State) (a0 : Array Value) (hw : HW Z a0) (hEL : EW Z a0 [("java/lang/String", 7)]) (h0 : Heap) (hE0 : Ext Z.heap h0) (ta : Addr) (k_ta : ClassId) (vs : List Value) (uu vv cc : Int32) (PSH : PS3 Z) (A_t : Arv Z h0 ta k_ta .byte (4 : Int32) vs (.int (0 : Int32))) (hu : vs.getD 2 (.int (0 : Int32)) = .int uu) (hv : vs.getD 3 (.int (0 : Int32)) = .int vv) (hp : StrChars.pairCh uu vv = cc) (r_c : ¬ cc < 0 ∧ ¬ (65535 : Int32) < cc) :
    Con l Z [("java/lang/String", 7)] [] (⟨"java/lang/StringUTF16", "getChar", "([BI)C"⟩ : MethodName) jdk_52_method_5_code 2 (some .char) [] (⟨0, 0, 0, 0⟩ : Room) #[(.ref ta), (.int (1 : Int32))] h0 (fun v h' => v = (some (.int cc)) ∧ h' = h0) := by
  refine Con.mk (plainFor_of_name pn_1) hEL hE0 (fun x hx => by cases hx) ?_
  intro p e s m below meth c T0 hby hml hret hnm W0
  rw [(show entryFrame m #[(.ref ta), (.int (1 : Int32))] 2 = mkF m 0 #[.val (.ref ta), .val (.int (1 : Int32))] [] from by first | (simp [entryFrame, mkF, argsToLocals, Value.category]; done) | rfl)]
  refine W0.gets (host := "") (Or.inl (wd58 hw)) Via.refl (PSH.ad.ext W0.old) (hb hby dc5_0) ?_
  intro T157 W158
  refine Go.by (fun t9_ q9_ => XS.ifYes W158.here W158.hx rfl (pc0 := 3) (pc' := 28) rfl (hb hby dc5_3) rfl ((if0 _ _).trans (feq (by decide)).2) (by decide) (by decide) q9_) ?_
  refine Go.by (fun t9_ q9_ => XS.iloadN W158.here W158.hx rfl (hb hby dc5_28) rfl (XS.iconst W158.here W158.hx rfl (hb hby dc5_29) (XS.ishl W158.here W158.hx rfl (hb hby dc5_30) rfl (XS.istoreN W158.here W158.hx rfl (hb hby dc5_31) rfl (l' := #[.val (.ref ta), .val (.int ((1 : Int32) <<< ((1 : Int32) &&& 31)))]) rfl q9_)))) ?_
  show Go _ _ _ _ _ _ _ _ _ (T157.setTop (mkF m 32 #[.val (.ref ta), .val (.int ((1 : Int32) <<< ((1 : Int32) &&& 31)))] []))
  rw [show ((1 : Int32) <<< ((1 : Int32) &&& 31)) = (2 : Int32) from by decide]
  refine Go.by (fun t9_ q9_ => XS.aloadN W158.here W158.hx rfl (hb hby dc5_32) rfl rfl (XS.iloadN W158.here W158.hx rfl (hb hby dc5_33) rfl (XS.iinc W158.here W158.hx rfl (hb hby dc5_34) rfl (l' := #[.val (.ref ta), .val (.int ((2 : Int32) + (1 : Int32)))]) rfl q9_))) ?_
  show Go _ _ _ _ _ _ _ _ _ (T157.setTop (mkF m 37 #[.val (.ref ta), .val (.int (3 : Int32))] [(.int (2 : Int32)), (.ref ta)]))
  refine W158.bald A_t ⟨by decide, by decide⟩ (v := (.int uu)) hu (hb hby dc5_37) ?_
  refine Go.by (fun t9_ q9_ => XS.sipush W158.here W158.hx rfl (hb hby dc5_38) (XS.iand W158.here W158.hx rfl (hb hby dc5_41) rfl q9_)) ?_
  show Go _ _ _ _ _ _ _ _ _ (T157.setTop (mkF m 42 #[.val (.ref ta), .val (.int (3 : Int32))] [(.int (uu &&& (255 : Int32)))]))
  refine W158.gets (host := "") (Or.inl (wd59 hw)) Via.refl (PSH.hi.ext W158.old) (hb hby dc5_42) ?_
  intro T159 W160
  refine Go.by (fun t9_ q9_ => XS.ishl W160.here W160.hx rfl (hb hby dc5_45) rfl (XS.aloadN W160.here W160.hx rfl (hb hby dc5_46) rfl rfl (XS.iloadN W160.here W160.hx rfl (hb hby dc5_47) rfl q9_))) ?_
  show Go _ _ _ _ _ _ _ _ _ (T159.setTop (mkF m 48 #[.val (.ref ta), .val (.int (3 : Int32))] [(.int (3 : Int32)), (.ref ta), (.int ((uu &&& (255 : Int32)) <<< ((0 : Int32) &&& 31)))]))
  refine W160.bald A_t ⟨by decide, by decide⟩ (v := (.int vv)) hv (hb hby dc5_48) ?_
  refine Go.by (fun t9_ q9_ => XS.sipush W160.here W160.hx rfl (hb hby dc5_49) (XS.iand W160.here W160.hx rfl (hb hby dc5_52) rfl q9_)) ?_
  show Go _ _ _ _ _ _ _ _ _ (T159.setTop (mkF m 53 #[.val (.ref ta), .val (.int (3 : Int32))] [(.int (vv &&& (255 : Int32))), (.int ((uu &&& (255 : Int32)) <<< ((0 : Int32) &&& 31)))]))
  refine W160.gets (host := "") (Or.inl (wd60 hw)) Via.refl (PSH.lo.ext W160.old) (hb hby dc5_53) ?_
  intro T161 W162
  refine Go.by (fun t9_ q9_ => XS.ishl W162.here W162.hx rfl (hb hby dc5_56) rfl (XS.ior W162.here W162.hx rfl (hb hby dc5_57) rfl (XS.i2c W162.here W162.hx rfl (hb hby dc5_58) rfl q9_))) ?_
  show Go _ _ _ _ _ _ _ _ _ (T161.setTop (mkF m 59 #[.val (.ref ta), .val (.int (3 : Int32))] [(.int ((((uu &&& (255 : Int32)) <<< ((0 : Int32) &&& 31)) ||| ((vv &&& (255 : Int32)) <<< ((8 : Int32) &&& 31))).toUInt32.toUInt16.toUInt32.toInt32))]))
  exact W162.retN (z' := cc) (by decide) (by decide) hret (by simp) (hb hby dc5_59) (by show nar .char (StrChars.pairCh uu vv) = cc; rw [hp]; exact nar_id r_c) ⟨rfl, rfl⟩
theorem c_tb2 (l : Launch) (Z : State) (a0 : Array Value) (hw : HW Z a0) (hEL : EW Z a0 [("java/lang/String", 7)]) (h0 : Heap) (hE0 : Ext Z.heap h0) (ba : Addr) (kb : ClassId) (c0 c1 : Int32) (PSH : PS3 Z) (A_b : Arv Z h0 ba kb .char (2 : Int32) [(.int c0), (.int c1)] (.int (0 : Int32))) :
    Con l Z [("java/lang/String", 7)] [] (⟨"java/lang/StringUTF16", "toBytes", "([CII)[B"⟩ : MethodName) jdk_52_method_14_code 5 (some (.array .byte)) [] (⟨2, 1, 4, 24⟩ : Room) #[(.ref ba), (.int (0 : Int32)), (.int (2 : Int32))] h0 (fun v h' => ∃ ta kt, v = some (.ref ta) ∧ Ext h0 h' ∧ Exa Z h' ta "[B" ∧ Arv Z h' ta kt .byte (4 : Int32) [(.int (StrChars.lo8 c0)), (.int (StrChars.hi8 c0)), (.int (StrChars.lo8 c1)), (.int (StrChars.hi8 c1))] (.int (0 : Int32))) := by
  refine Con.mk (plainFor_of_name pn_1) hEL hE0 (fun x hx => by cases hx) ?_
  intro p e s m below meth c T0 hby hml hret hnm W0
  rw [(show entryFrame m #[(.ref ba), (.int (0 : Int32)), (.int (2 : Int32))] 5 = mkF m 0 #[.val (.ref ba), .val (.int (0 : Int32)), .val (.int (2 : Int32)), .unset, .unset] [] from by first | (simp [entryFrame, mkF, argsToLocals, Value.category]; done) | rfl)]
  refine Go.by (fun t9_ q9_ => XS.iloadN W0.here W0.hx rfl (hb hby dc6_0) rfl q9_) ?_
  show Go _ _ _ _ _ _ _ _ _ (T0.setTop (mkF m 1 #[.val (.ref ba), .val (.int (0 : Int32)), .val (.int (2 : Int32)), .unset, .unset] [(.int (2 : Int32))]))
  refine W0.callS (y := (⟨"java/lang/StringUTF16", "newBytesFor", "(I)[B"⟩ : MethodName)) (wd48 hw) (wd49 hw) (wd37 hw) (wd50 hw) (by decide) (c_nbf2 l Z a0 hw hEL h0 hE0) all0 (by decide) (by decide) (k' := 1) (n' := 4) rfl rfl (by decide) (by decide) (by rw [hml]; rfl) (argsL := [(.int (2 : Int32))]) (rest := []) (lenOf pd_2 rfl) rfl rfl (Wt := 0) (Nat.le_of_eq rfl) (hb hby dc6_1) ?_
  intro v_ T163 h165 W164 hq_
  obtain ⟨ta, k_ta, rfl, X1, z_ta, g_ta, E_ta, A_ta⟩ := hq_
  have W166 := W164.safe0 (wd22 hw) A_ta (by decide)
  refine Go.by (fun t9_ q9_ => XS.astoreN W166.here W166.hx rfl (hb hby dc6_4) rfl rfl (l' := #[.val (.ref ba), .val (.int (0 : Int32)), .val (.int (2 : Int32)), .val (.ref ta), .unset]) rfl (XS.iconst W166.here W166.hx rfl (hb hby dc6_5) (XS.istore W166.here W166.hx rfl (hb hby dc6_6) rfl (l' := #[.val (.ref ba), .val (.int (0 : Int32)), .val (.int (2 : Int32)), .val (.ref ta), .val (.int (0 : Int32))]) rfl (XS.iload W166.here W166.hx rfl (hb hby dc6_8) rfl (XS.iloadN W166.here W166.hx rfl (hb hby dc6_10) rfl q9_))))) ?_
  refine Go.by (fun t9_ q9_ => XS.icmpNo W166.here W166.hx rfl (hb hby dc6_11) rfl (tlt (by decide)).2.1 q9_) ?_
  refine Go.by (fun t9_ q9_ => XS.aloadN W166.here W166.hx rfl (hb hby dc6_14) rfl rfl (XS.iload W166.here W166.hx rfl (hb hby dc6_15) rfl (XS.aloadN W166.here W166.hx rfl (hb hby dc6_17) rfl rfl (XS.iloadN W166.here W166.hx rfl (hb hby dc6_18) rfl q9_)))) ?_
  show Go _ _ _ _ _ _ _ _ _ (T163.setTop (mkF m 19 #[.val (.ref ba), .val (.int (0 : Int32)), .val (.int (2 : Int32)), .val (.ref ta), .val (.int (0 : Int32))] [(.int (0 : Int32)), (.ref ba), (.int (0 : Int32)), (.ref ta)]))
  refine W166.cald (A_b.ext X1) ⟨by decide, by decide⟩ (v := (.int c0)) rfl (hb hby dc6_19) ?_
  show Go _ _ _ _ _ _ _ _ _ (T163.setTop (mkF m 20 #[.val (.ref ba), .val (.int (0 : Int32)), .val (.int (2 : Int32)), .val (.ref ta), .val (.int (0 : Int32))] [(.int c0), (.int (0 : Int32)), (.ref ta)]))
  refine W166.callS (y := (⟨"java/lang/StringUTF16", "putChar", "([BII)V"⟩ : MethodName)) (wd55 hw) (wd56 hw) (wd37 hw) (wd57 hw) (by decide) (c_put2_0 l Z a0 hw hEL h165 W166.old ta k_ta (.int (0 : Int32)) (.int (0 : Int32)) (.int (0 : Int32)) (.int (0 : Int32)) c0 PSH A_ta z_ta) (allS (List.mem_of_getElem? (i := 0) rfl) all0) (by decide) (by decide) (k' := 1) (n' := 4) rfl rfl (by decide) (by decide) (by rw [hml]; rfl) (argsL := [(.ref ta), (.int (0 : Int32)), (.int c0)]) (rest := []) (lenOf pd_3 rfl) rfl rfl (Wt := 0) (Nat.le_of_eq rfl) (hb hby dc6_20) ?_
  intro v_ T167 h169 W168 hq_
  obtain ⟨rfl, K0, A0_ta⟩ := hq_
  refine Go.by (fun t9_ q9_ => XS.iinc W168.here W168.hx rfl (hb hby dc6_23) rfl (l' := #[.val (.ref ba), .val (.int ((0 : Int32) + (1 : Int32))), .val (.int (2 : Int32)), .val (.ref ta), .val (.int (0 : Int32))]) rfl q9_) ?_
  show Go _ _ _ _ _ _ _ _ _ (T167.setTop (mkF m 26 #[.val (.ref ba), .val (.int (1 : Int32)), .val (.int (2 : Int32)), .val (.ref ta), .val (.int (0 : Int32))] []))
  refine Go.by (fun t9_ q9_ => XS.iinc W168.here W168.hx rfl (hb hby dc6_26) rfl (l' := #[.val (.ref ba), .val (.int (1 : Int32)), .val (.int (2 : Int32)), .val (.ref ta), .val (.int ((0 : Int32) + (1 : Int32)))]) rfl q9_) ?_
  show Go _ _ _ _ _ _ _ _ _ (T167.setTop (mkF m 29 #[.val (.ref ba), .val (.int (1 : Int32)), .val (.int (2 : Int32)), .val (.ref ta), .val (.int (1 : Int32))] []))
  refine Go.by (fun t9_ q9_ => XS.goto W168.here W168.hx rfl (pc0 := 29) (pc' := 8) rfl (hb hby dc6_29) (by decide) (by decide) (XS.iload W168.here W168.hx rfl (hb hby dc6_8) rfl (XS.iloadN W168.here W168.hx rfl (hb hby dc6_10) rfl q9_))) ?_
  refine Go.by (fun t9_ q9_ => XS.icmpNo W168.here W168.hx rfl (hb hby dc6_11) rfl (tlt (by decide)).2.1 q9_) ?_
  refine Go.by (fun t9_ q9_ => XS.aloadN W168.here W168.hx rfl (hb hby dc6_14) rfl rfl (XS.iload W168.here W168.hx rfl (hb hby dc6_15) rfl (XS.aloadN W168.here W168.hx rfl (hb hby dc6_17) rfl rfl (XS.iloadN W168.here W168.hx rfl (hb hby dc6_18) rfl q9_)))) ?_
  have X170 : Ext h0 h169 := (Ext.keep' X1 K0 (allS (Nat.le_of_eq g_ta) all0))
  show Go _ _ _ _ _ _ _ _ _ (T167.setTop (mkF m 19 #[.val (.ref ba), .val (.int (1 : Int32)), .val (.int (2 : Int32)), .val (.ref ta), .val (.int (1 : Int32))] [(.int (1 : Int32)), (.ref ba), (.int (1 : Int32)), (.ref ta)]))
  refine W168.cald (A_b.ext X170) ⟨by decide, by decide⟩ (v := (.int c1)) rfl (hb hby dc6_19) ?_
  show Go _ _ _ _ _ _ _ _ _ (T167.setTop (mkF m 20 #[.val (.ref ba), .val (.int (1 : Int32)), .val (.int (2 : Int32)), .val (.ref ta), .val (.int (1 : Int32))] [(.int c1), (.int (1 : Int32)), (.ref ta)]))
  refine W168.callS (y := (⟨"java/lang/StringUTF16", "putChar", "([BII)V"⟩ : MethodName)) (wd55 hw) (wd56 hw) (wd37 hw) (wd57 hw) (by decide) (c_put2_1 l Z a0 hw hEL h169 W168.old ta k_ta (.int (StrChars.lo8 c0)) (.int (StrChars.hi8 c0)) (.int (0 : Int32)) (.int (0 : Int32)) c1 PSH A0_ta z_ta) (allS (List.mem_of_getElem? (i := 0) rfl) all0) (by decide) (by decide) (k' := 1) (n' := 4) rfl rfl (by decide) (by decide) (by rw [hml]; rfl) (argsL := [(.ref ta), (.int (1 : Int32)), (.int c1)]) (rest := []) (lenOf pd_3 rfl) rfl rfl (Wt := 0) (Nat.le_of_eq rfl) (hb hby dc6_20) ?_
  intro v_ T171 h173 W172 hq_
  obtain ⟨rfl, K1, A1_ta⟩ := hq_
  refine Go.by (fun t9_ q9_ => XS.iinc W172.here W172.hx rfl (hb hby dc6_23) rfl (l' := #[.val (.ref ba), .val (.int ((1 : Int32) + (1 : Int32))), .val (.int (2 : Int32)), .val (.ref ta), .val (.int (1 : Int32))]) rfl q9_) ?_
  show Go _ _ _ _ _ _ _ _ _ (T171.setTop (mkF m 26 #[.val (.ref ba), .val (.int (2 : Int32)), .val (.int (2 : Int32)), .val (.ref ta), .val (.int (1 : Int32))] []))
  refine Go.by (fun t9_ q9_ => XS.iinc W172.here W172.hx rfl (hb hby dc6_26) rfl (l' := #[.val (.ref ba), .val (.int (2 : Int32)), .val (.int (2 : Int32)), .val (.ref ta), .val (.int ((1 : Int32) + (1 : Int32)))]) rfl q9_) ?_
  show Go _ _ _ _ _ _ _ _ _ (T171.setTop (mkF m 29 #[.val (.ref ba), .val (.int (2 : Int32)), .val (.int (2 : Int32)), .val (.ref ta), .val (.int (2 : Int32))] []))
  refine Go.by (fun t9_ q9_ => XS.goto W172.here W172.hx rfl (pc0 := 29) (pc' := 8) rfl (hb hby dc6_29) (by decide) (by decide) (XS.iload W172.here W172.hx rfl (hb hby dc6_8) rfl (XS.iloadN W172.here W172.hx rfl (hb hby dc6_10) rfl q9_))) ?_
  refine Go.by (fun t9_ q9_ => XS.icmpYes W172.here W172.hx rfl (pc0 := 11) (pc' := 32) rfl (hb hby dc6_11) rfl (flt (by decide)).2.1 (by decide) (by decide) q9_) ?_
  refine Go.by (fun t9_ q9_ => XS.aloadN W172.here W172.hx rfl (hb hby dc6_32) rfl rfl q9_) ?_
  have X174 : Ext h0 h173 := (Ext.keep' X170 K1 (allS (Nat.le_of_eq g_ta) all0))
  show Go _ _ _ _ _ _ _ _ _ (T171.setTop (mkF m 33 #[.val (.ref ba), .val (.int (2 : Int32)), .val (.int (2 : Int32)), .val (.ref ta), .val (.int (2 : Int32))] [(.ref ta)]))
  exact W172.retA (by decide) (by decide) hret rfl rfl (hb hby dc6_33) ⟨ta, k_ta, rfl, X174, ((E_ta.keep K0).keep K1), A1_ta⟩
theorem c_cm5_2 (l : Launch) (Z : State) (a0 : Array Value) (hw : HW Z a0) (hEL : EW Z a0 [("java/lang/String", 7)]) (h0 : Heap) (hE0 : Ext Z.heap h0) (ba da : Addr) (kb k_da : ClassId) (c0 c1 : Int32) (A_b : Arv Z h0 ba kb .char (2 : Int32) [(.int c0), (.int c1)] (.int (0 : Int32))) (A_d : Arv Z h0 da k_da .byte (2 : Int32) [(.int (0 : Int32)), (.int (0 : Int32))] (.int (0 : Int32))) (z_da : Z.heap.size ≤ da) (nbd : ba ≠ da) (hbig : (255 : Int32) < c0 ∨ (255 : Int32) < c1) :
    Con l Z [("java/lang/String", 7)] [da] (⟨"java/lang/StringUTF16", "compress", "([CI[BII)I"⟩ : MethodName) jdk_52_method_21_code 7 (some .int) [] (⟨0, 0, 0, 0⟩ : Room) #[(.ref ba), (.int (0 : Int32)), (.ref da), (.int (0 : Int32)), (.int (2 : Int32))] h0 (fun v h' => ∃ kk : Int32, v = some (.int kk) ∧ Keep h0 h' [da] ∧ (kk = (0 : Int32) ∧ (255 : Int32) < c0 ∨ kk = (1 : Int32) ∧ (255 : Int32) < c1)) := by
  refine Con.mk (plainFor_of_name pn_1) hEL hE0 (allS A_d.lt all0) ?_
  intro p e s m below meth c T0 hby hml hret hnm W0
  rw [(show entryFrame m #[(.ref ba), (.int (0 : Int32)), (.ref da), (.int (0 : Int32)), (.int (2 : Int32))] 7 = mkF m 0 #[.val (.ref ba), .val (.int (0 : Int32)), .val (.ref da), .val (.int (0 : Int32)), .val (.int (2 : Int32)), .unset, .unset] [] from by first | (simp [entryFrame, mkF, argsToLocals, Value.category]; done) | rfl)]
  refine Go.by (fun t9_ q9_ => XS.iconst W0.here W0.hx rfl (hb hby dc7_0) (XS.istore W0.here W0.hx rfl (hb hby dc7_1) rfl (l' := #[.val (.ref ba), .val (.int (0 : Int32)), .val (.ref da), .val (.int (0 : Int32)), .val (.int (2 : Int32)), .val (.int (0 : Int32)), .unset]) rfl (XS.iload W0.here W0.hx rfl (hb hby dc7_3) rfl (XS.iload W0.here W0.hx rfl (hb hby dc7_5) rfl q9_)))) ?_
  refine Go.by (fun t9_ q9_ => XS.icmpNo W0.here W0.hx rfl (hb hby dc7_7) rfl (tlt (by decide)).2.1 q9_) ?_
  refine Go.by (fun t9_ q9_ => XS.aloadN W0.here W0.hx rfl (hb hby dc7_10) rfl rfl (XS.iloadN W0.here W0.hx rfl (hb hby dc7_11) rfl q9_)) ?_
  show Go _ _ _ _ _ _ _ _ _ (T0.setTop (mkF m 12 #[.val (.ref ba), .val (.int (0 : Int32)), .val (.ref da), .val (.int (0 : Int32)), .val (.int (2 : Int32)), .val (.int (0 : Int32)), .unset] [(.int (0 : Int32)), (.ref ba)]))
  refine W0.cald A_b ⟨by decide, by decide⟩ (v := (.int c0)) rfl (hb hby dc7_12) ?_
  refine Go.by (fun t9_ q9_ => XS.istore W0.here W0.hx rfl (hb hby dc7_13) rfl (l' := #[.val (.ref ba), .val (.int (0 : Int32)), .val (.ref da), .val (.int (0 : Int32)), .val (.int (2 : Int32)), .val (.int (0 : Int32)), .val (.int c0)]) rfl (XS.iload W0.here W0.hx rfl (hb hby dc7_15) rfl (XS.sipush W0.here W0.hx rfl (hb hby dc7_17) q9_))) ?_
  by_cases e0 : (255 : Int32) < c0
  · refine Go.by (fun t9_ q9_ => XS.icmpNo W0.here W0.hx rfl (hb hby dc7_20) rfl (tlt e0).2.2.2 q9_) ?_
    refine Go.by (fun t9_ q9_ => XS.iload W0.here W0.hx rfl (hb hby dc7_23) rfl q9_) ?_
    show Go _ _ _ _ _ _ _ _ _ (T0.setTop (mkF m 25 #[.val (.ref ba), .val (.int (0 : Int32)), .val (.ref da), .val (.int (0 : Int32)), .val (.int (2 : Int32)), .val (.int (0 : Int32)), .val (.int c0)] [(.int (0 : Int32))]))
    exact W0.retI (by decide) (by decide) hret (hb hby dc7_25) ⟨(0 : Int32), rfl, (Keep.refl h0 [da]), Or.inl ⟨rfl, e0⟩⟩
  · refine Go.by (fun t9_ q9_ => XS.icmpYes W0.here W0.hx rfl (pc0 := 20) (pc' := 26) rfl (hb hby dc7_20) rfl (flt e0).2.2.2 (by decide) (by decide) q9_) ?_
    refine Go.by (fun t9_ q9_ => XS.aloadN W0.here W0.hx rfl (hb hby dc7_26) rfl rfl (XS.iloadN W0.here W0.hx rfl (hb hby dc7_27) rfl (XS.iload W0.here W0.hx rfl (hb hby dc7_28) rfl (XS.i2b W0.here W0.hx rfl (hb hby dc7_30) rfl q9_)))) ?_
    show Go _ _ _ _ _ _ _ _ _ (T0.setTop (mkF m 31 #[.val (.ref ba), .val (.int (0 : Int32)), .val (.ref da), .val (.int (0 : Int32)), .val (.int (2 : Int32)), .val (.int (0 : Int32)), .val (.int c0)] [(.int (c0.toInt8.toInt32)), (.int (0 : Int32)), (.ref da)]))
    refine W0.bast A_d ⟨by decide, by decide⟩ (i := 0) rfl (by simp) (v' := (StrChars.lo8 c0)) (by simp [nar, StrChars.lo8, lo8_lo8]) z_da (List.mem_of_getElem? (i := 0) rfl) (hb hby dc7_31) ?_
    intro T175 h176 W177 Wr178 V179_da'
    have V179_da : Arv Z h176 da k_da .byte (2 : Int32) [(.int (StrChars.lo8 c0)), (.int (0 : Int32))] (.int (0 : Int32)) := V179_da'
    refine Go.by (fun t9_ q9_ => XS.iinc W177.here W177.hx rfl (hb hby dc7_32) rfl (l' := #[.val (.ref ba), .val (.int ((0 : Int32) + (1 : Int32))), .val (.ref da), .val (.int (0 : Int32)), .val (.int (2 : Int32)), .val (.int (0 : Int32)), .val (.int c0)]) rfl q9_) ?_
    show Go _ _ _ _ _ _ _ _ _ (T175.setTop (mkF m 35 #[.val (.ref ba), .val (.int (1 : Int32)), .val (.ref da), .val (.int (0 : Int32)), .val (.int (2 : Int32)), .val (.int (0 : Int32)), .val (.int c0)] []))
    refine Go.by (fun t9_ q9_ => XS.iinc W177.here W177.hx rfl (hb hby dc7_35) rfl (l' := #[.val (.ref ba), .val (.int (1 : Int32)), .val (.ref da), .val (.int ((0 : Int32) + (1 : Int32))), .val (.int (2 : Int32)), .val (.int (0 : Int32)), .val (.int c0)]) rfl q9_) ?_
    show Go _ _ _ _ _ _ _ _ _ (T175.setTop (mkF m 38 #[.val (.ref ba), .val (.int (1 : Int32)), .val (.ref da), .val (.int (1 : Int32)), .val (.int (2 : Int32)), .val (.int (0 : Int32)), .val (.int c0)] []))
    refine Go.by (fun t9_ q9_ => XS.iinc W177.here W177.hx rfl (hb hby dc7_38) rfl (l' := #[.val (.ref ba), .val (.int (1 : Int32)), .val (.ref da), .val (.int (1 : Int32)), .val (.int (2 : Int32)), .val (.int ((0 : Int32) + (1 : Int32))), .val (.int c0)]) rfl q9_) ?_
    show Go _ _ _ _ _ _ _ _ _ (T175.setTop (mkF m 41 #[.val (.ref ba), .val (.int (1 : Int32)), .val (.ref da), .val (.int (1 : Int32)), .val (.int (2 : Int32)), .val (.int (1 : Int32)), .val (.int c0)] []))
    refine Go.by (fun t9_ q9_ => XS.goto W177.here W177.hx rfl (pc0 := 41) (pc' := 3) rfl (hb hby dc7_41) (by decide) (by decide) (XS.iload W177.here W177.hx rfl (hb hby dc7_3) rfl (XS.iload W177.here W177.hx rfl (hb hby dc7_5) rfl q9_))) ?_
    refine Go.by (fun t9_ q9_ => XS.icmpNo W177.here W177.hx rfl (hb hby dc7_7) rfl (tlt (by decide)).2.1 q9_) ?_
    refine Go.by (fun t9_ q9_ => XS.aloadN W177.here W177.hx rfl (hb hby dc7_10) rfl rfl (XS.iloadN W177.here W177.hx rfl (hb hby dc7_11) rfl q9_)) ?_
    show Go _ _ _ _ _ _ _ _ _ (T175.setTop (mkF m 12 #[.val (.ref ba), .val (.int (1 : Int32)), .val (.ref da), .val (.int (1 : Int32)), .val (.int (2 : Int32)), .val (.int (1 : Int32)), .val (.int c0)] [(.int (1 : Int32)), (.ref ba)]))
    refine W177.cald (A_b.other Wr178 nbd) ⟨by decide, by decide⟩ (v := (.int c1)) rfl (hb hby dc7_12) ?_
    refine Go.by (fun t9_ q9_ => XS.istore W177.here W177.hx rfl (hb hby dc7_13) rfl (l' := #[.val (.ref ba), .val (.int (1 : Int32)), .val (.ref da), .val (.int (1 : Int32)), .val (.int (2 : Int32)), .val (.int (1 : Int32)), .val (.int c1)]) rfl (XS.iload W177.here W177.hx rfl (hb hby dc7_15) rfl (XS.sipush W177.here W177.hx rfl (hb hby dc7_17) q9_))) ?_
    by_cases e1 : (255 : Int32) < c1
    · refine Go.by (fun t9_ q9_ => XS.icmpNo W177.here W177.hx rfl (hb hby dc7_20) rfl (tlt e1).2.2.2 q9_) ?_
      refine Go.by (fun t9_ q9_ => XS.iload W177.here W177.hx rfl (hb hby dc7_23) rfl q9_) ?_
      show Go _ _ _ _ _ _ _ _ _ (T175.setTop (mkF m 25 #[.val (.ref ba), .val (.int (1 : Int32)), .val (.ref da), .val (.int (1 : Int32)), .val (.int (2 : Int32)), .val (.int (1 : Int32)), .val (.int c1)] [(.int (1 : Int32))]))
      exact W177.retI (by decide) (by decide) hret (hb hby dc7_25) ⟨(1 : Int32), rfl, ((Keep.refl h0 [da]).wr Wr178 (Or.inl (List.mem_of_getElem? (i := 0) rfl))), Or.inr (⟨rfl, e1⟩)⟩
    · refine Go.by (fun t9_ q9_ => XS.icmpYes W177.here W177.hx rfl (pc0 := 20) (pc' := 26) rfl (hb hby dc7_20) rfl (flt e1).2.2.2 (by decide) (by decide) q9_) ?_
      refine Go.by (fun t9_ q9_ => XS.aloadN W177.here W177.hx rfl (hb hby dc7_26) rfl rfl (XS.iloadN W177.here W177.hx rfl (hb hby dc7_27) rfl (XS.iload W177.here W177.hx rfl (hb hby dc7_28) rfl (XS.i2b W177.here W177.hx rfl (hb hby dc7_30) rfl q9_)))) ?_
      show Go _ _ _ _ _ _ _ _ _ (T175.setTop (mkF m 31 #[.val (.ref ba), .val (.int (1 : Int32)), .val (.ref da), .val (.int (1 : Int32)), .val (.int (2 : Int32)), .val (.int (1 : Int32)), .val (.int c1)] [(.int (c1.toInt8.toInt32)), (.int (1 : Int32)), (.ref da)]))
      refine W177.bast V179_da ⟨by decide, by decide⟩ (i := 1) rfl (by simp) (v' := (StrChars.lo8 c1)) (by simp [nar, StrChars.lo8, lo8_lo8]) z_da (List.mem_of_getElem? (i := 0) rfl) (hb hby dc7_31) ?_
      intro T180 h181 W182 Wr183 V184_da'
      have V184_da : Arv Z h181 da k_da .byte (2 : Int32) [(.int (StrChars.lo8 c0)), (.int (StrChars.lo8 c1))] (.int (0 : Int32)) := V184_da'
      refine Go.by (fun t9_ q9_ => XS.iinc W182.here W182.hx rfl (hb hby dc7_32) rfl (l' := #[.val (.ref ba), .val (.int ((1 : Int32) + (1 : Int32))), .val (.ref da), .val (.int (1 : Int32)), .val (.int (2 : Int32)), .val (.int (1 : Int32)), .val (.int c1)]) rfl q9_) ?_
      show Go _ _ _ _ _ _ _ _ _ (T180.setTop (mkF m 35 #[.val (.ref ba), .val (.int (2 : Int32)), .val (.ref da), .val (.int (1 : Int32)), .val (.int (2 : Int32)), .val (.int (1 : Int32)), .val (.int c1)] []))
      refine Go.by (fun t9_ q9_ => XS.iinc W182.here W182.hx rfl (hb hby dc7_35) rfl (l' := #[.val (.ref ba), .val (.int (2 : Int32)), .val (.ref da), .val (.int ((1 : Int32) + (1 : Int32))), .val (.int (2 : Int32)), .val (.int (1 : Int32)), .val (.int c1)]) rfl q9_) ?_
      show Go _ _ _ _ _ _ _ _ _ (T180.setTop (mkF m 38 #[.val (.ref ba), .val (.int (2 : Int32)), .val (.ref da), .val (.int (2 : Int32)), .val (.int (2 : Int32)), .val (.int (1 : Int32)), .val (.int c1)] []))
      refine Go.by (fun t9_ q9_ => XS.iinc W182.here W182.hx rfl (hb hby dc7_38) rfl (l' := #[.val (.ref ba), .val (.int (2 : Int32)), .val (.ref da), .val (.int (2 : Int32)), .val (.int (2 : Int32)), .val (.int ((1 : Int32) + (1 : Int32))), .val (.int c1)]) rfl q9_) ?_
      show Go _ _ _ _ _ _ _ _ _ (T180.setTop (mkF m 41 #[.val (.ref ba), .val (.int (2 : Int32)), .val (.ref da), .val (.int (2 : Int32)), .val (.int (2 : Int32)), .val (.int (2 : Int32)), .val (.int c1)] []))
      rcases hbig with z0 | z1 <;> contradiction
theorem c_cm3_2 (l : Launch) (Z : State) (a0 : Array Value) (hw : HW Z a0) (hEL : EW Z a0 [("java/lang/String", 7)]) (h0 : Heap) (hE0 : Ext Z.heap h0) (ba : Addr) (kb : ClassId) (c0 c1 : Int32) (PSH : PS3 Z) (A_b : Arv Z h0 ba kb .char (2 : Int32) [(.int c0), (.int c1)] (.int (0 : Int32))) (r0 : ¬ c0 < 0 ∧ ¬ (65535 : Int32) < c0) (r1 : ¬ c1 < 0 ∧ ¬ (65535 : Int32) < c1) (hbig : (255 : Int32) < c0 ∨ (255 : Int32) < c1) :
    Con l Z [("java/lang/String", 7)] [] (⟨"java/lang/StringUTF16", "compress", "([CII)[B"⟩ : MethodName) jdk_52_method_16_code 6 (some (.array .byte)) [] (⟨3, 2, 6, 40⟩ : Room) #[(.ref ba), (.int (0 : Int32)), (.int (2 : Int32))] h0 (fun v h' => ∃ ta kt, v = some (.ref ta) ∧ Ext h0 h' ∧ Exa Z h' ta "[B" ∧ Arv Z h' ta kt .byte (4 : Int32) [(.int (StrChars.lo8 c0)), (.int (StrChars.hi8 c0)), (.int (StrChars.lo8 c1)), (.int (StrChars.hi8 c1))] (.int (0 : Int32))) := by
  refine Con.mk (plainFor_of_name pn_1) hEL hE0 (fun x hx => by cases hx) ?_
  intro p e s m below meth c T0 hby hml hret hnm W0
  rw [(show entryFrame m #[(.ref ba), (.int (0 : Int32)), (.int (2 : Int32))] 6 = mkF m 0 #[.val (.ref ba), .val (.int (0 : Int32)), .val (.int (2 : Int32)), .unset, .unset, .unset] [] from by first | (simp [entryFrame, mkF, argsToLocals, Value.category]; done) | rfl)]
  refine Go.by (fun t9_ q9_ => XS.iloadN W0.here W0.hx rfl (hb hby dc8_0) rfl q9_) ?_
  show Go _ _ _ _ _ _ _ _ _ (T0.setTop (mkF m 1 #[.val (.ref ba), .val (.int (0 : Int32)), .val (.int (2 : Int32)), .unset, .unset, .unset] [(.int (2 : Int32))]))
  refine W0.newp (aty := .byte) (wd23 hw) (hb hby dc8_1) (by decide) (cap := 2) (by decide) (by decide) (k' := 1) (n' := 2) rfl rfl (by decide) (by decide) (ad := "[B") rfl ?_
  intro T185 h186 da k_da W187 E188 g_da z_da A_da V_da
  have V1_da : Arv Z h186 da k_da .byte (2 : Int32) [(.int (0 : Int32)), (.int (0 : Int32))] (.int (0 : Int32)) := V_da.pad (pad_rep [] (.int (0 : Int32)) 2)
  refine Go.by (fun t9_ q9_ => XS.astoreN W187.here W187.hx rfl (hb hby dc8_3) rfl rfl (l' := #[.val (.ref ba), .val (.int (0 : Int32)), .val (.int (2 : Int32)), .val (.ref da), .unset, .unset]) rfl (XS.aloadN W187.here W187.hx rfl (hb hby dc8_4) rfl rfl (XS.iloadN W187.here W187.hx rfl (hb hby dc8_5) rfl (XS.aloadN W187.here W187.hx rfl (hb hby dc8_6) rfl rfl (XS.iconst W187.here W187.hx rfl (hb hby dc8_7) (XS.iloadN W187.here W187.hx rfl (hb hby dc8_8) rfl q9_)))))) ?_
  show Go _ _ _ _ _ _ _ _ _ (T185.setTop (mkF m 9 #[.val (.ref ba), .val (.int (0 : Int32)), .val (.int (2 : Int32)), .val (.ref da), .unset, .unset] [(.int (2 : Int32)), (.int (0 : Int32)), (.ref da), (.int (0 : Int32)), (.ref ba)]))
  refine W187.callS (y := (⟨"java/lang/StringUTF16", "compress", "([CI[BII)I"⟩ : MethodName)) (wd39 hw) (wd40 hw) (wd37 hw) (wd41 hw) (by decide) (c_cm5_2 l Z a0 hw hEL h186 W187.old ba da kb k_da c0 c1 (A_b.ext E188) V1_da z_da (Nat.ne_of_lt (Nat.lt_of_lt_of_le A_b.lt (Nat.le_of_eq g_da))) hbig) (allS (List.mem_of_getElem? (i := 0) rfl) all0) (by decide) (by decide) (k' := 1) (n' := 2) rfl rfl (by decide) (by decide) (by rw [hml]; rfl) (argsL := [(.ref ba), (.int (0 : Int32)), (.ref da), (.int (0 : Int32)), (.int (2 : Int32))]) (rest := []) (lenOf pd_4 rfl) rfl rfl (Wt := 0) (Nat.le_of_eq rfl) (hb hby dc8_9) ?_
  intro v_ T189 h191 W190 hq_
  obtain ⟨kk, rfl, K1, hk⟩ := hq_
  refine Go.by (fun t9_ q9_ => XS.istore W190.here W190.hx rfl (hb hby dc8_12) rfl (l' := #[.val (.ref ba), .val (.int (0 : Int32)), .val (.int (2 : Int32)), .val (.ref da), .val (.int kk), .unset]) rfl (XS.iload W190.here W190.hx rfl (hb hby dc8_14) rfl (XS.iloadN W190.here W190.hx rfl (hb hby dc8_16) rfl q9_))) ?_
  rcases hk with ⟨rfl, e0⟩ | ⟨rfl, e1⟩
  · refine Go.by (fun t9_ q9_ => XS.icmpNo W190.here W190.hx rfl (hb hby dc8_17) rfl (feq (by decide)).1 q9_) ?_
    refine Go.by (fun t9_ q9_ => XS.aloadN W190.here W190.hx rfl (hb hby dc8_20) rfl rfl (XS.iloadN W190.here W190.hx rfl (hb hby dc8_21) rfl (XS.iloadN W190.here W190.hx rfl (hb hby dc8_22) rfl q9_))) ?_
    have X192 : Ext h0 h191 := (Ext.keep' E188 K1 (allS (Nat.le_of_eq g_da) all0))
    show Go _ _ _ _ _ _ _ _ _ (T189.setTop (mkF m 23 #[.val (.ref ba), .val (.int (0 : Int32)), .val (.int (2 : Int32)), .val (.ref da), .val (.int (0 : Int32)), .unset] [(.int (2 : Int32)), (.int (0 : Int32)), (.ref ba)]))
    refine W190.callS (y := (⟨"java/lang/StringUTF16", "toBytes", "([CII)[B"⟩ : MethodName)) (wd45 hw) (wd46 hw) (wd37 hw) (wd47 hw) (by decide) (c_tb2 l Z a0 hw hEL h191 W190.old ba kb c0 c1 PSH (A_b.ext X192)) all0 (by decide) (by decide) (k' := 2) (n' := 6) rfl rfl (by decide) (by decide) (by rw [hml]; rfl) (argsL := [(.ref ba), (.int (0 : Int32)), (.int (2 : Int32))]) (rest := []) (lenOf pd_5 rfl) rfl rfl (Wt := 0) (Nat.le_of_eq rfl) (hb hby dc8_23) ?_
    intro v_ T193 h195 W194 hq_
    obtain ⟨ta, k_ta, rfl, X2, E_ta, A_ta⟩ := hq_
    refine Go.by (fun t9_ q9_ => XS.astore W194.here W194.hx rfl (hb hby dc8_26) rfl rfl (l' := #[.val (.ref ba), .val (.int (0 : Int32)), .val (.int (2 : Int32)), .val (.ref da), .val (.int (0 : Int32)), .val (.ref ta)]) rfl (XS.aload W194.here W194.hx rfl (hb hby dc8_28) rfl rfl (XS.iload W194.here W194.hx rfl (hb hby dc8_30) rfl q9_))) ?_
    show Go _ _ _ _ _ _ _ _ _ (T193.setTop (mkF m 32 #[.val (.ref ba), .val (.int (0 : Int32)), .val (.int (2 : Int32)), .val (.ref da), .val (.int (0 : Int32)), .val (.ref ta)] [(.int (0 : Int32)), (.ref ta)]))
    refine W194.callSp (y := (⟨"java/lang/StringUTF16", "getChar", "([BI)C"⟩ : MethodName)) (wd61 hw) (wd62 hw) (wd37 hw) (wd63 hw) (by decide) (c_get2_0 l Z a0 hw hEL h195 W194.old ta k_ta _ _ _ c0 PSH A_ta rfl rfl (StrChars.pair_says r0.1 r0.2) r0) all0 (by decide) (by decide) (k' := 2) (n' := 6) rfl rfl (by decide) (by decide) (by rw [hml]; rfl) (argsL := [(.ref ta), (.int (0 : Int32))]) (rest := []) (lenOf pd_6 rfl) rfl rfl (Wt := 0) (Nat.le_of_eq rfl) (hb hby dc8_32) ?_
    intro T196 W197
    refine Go.by (fun t9_ q9_ => XS.sipush W197.here W197.hx rfl (hb hby dc8_35) q9_) ?_
    refine Go.by (fun t9_ q9_ => XS.icmpYes W197.here W197.hx rfl (pc0 := 38) (pc' := 54) rfl (hb hby dc8_38) rfl (tlt e0).2.2.1 (by decide) (by decide) q9_) ?_
    refine Go.by (fun t9_ q9_ => XS.aload W197.here W197.hx rfl (hb hby dc8_54) rfl rfl q9_) ?_
    have X198 : Ext h0 h195 := (Ext.trans' X192 X2)
    show Go _ _ _ _ _ _ _ _ _ (T196.setTop (mkF m 56 #[.val (.ref ba), .val (.int (0 : Int32)), .val (.int (2 : Int32)), .val (.ref da), .val (.int (0 : Int32)), .val (.ref ta)] [(.ref ta)]))
    exact W197.retA (by decide) (by decide) hret rfl rfl (hb hby dc8_56) ⟨ta, k_ta, rfl, X198, E_ta, A_ta⟩
  · refine Go.by (fun t9_ q9_ => XS.icmpNo W190.here W190.hx rfl (hb hby dc8_17) rfl (feq (by decide)).1 q9_) ?_
    refine Go.by (fun t9_ q9_ => XS.aloadN W190.here W190.hx rfl (hb hby dc8_20) rfl rfl (XS.iloadN W190.here W190.hx rfl (hb hby dc8_21) rfl (XS.iloadN W190.here W190.hx rfl (hb hby dc8_22) rfl q9_))) ?_
    have X199 : Ext h0 h191 := (Ext.keep' E188 K1 (allS (Nat.le_of_eq g_da) all0))
    show Go _ _ _ _ _ _ _ _ _ (T189.setTop (mkF m 23 #[.val (.ref ba), .val (.int (0 : Int32)), .val (.int (2 : Int32)), .val (.ref da), .val (.int (1 : Int32)), .unset] [(.int (2 : Int32)), (.int (0 : Int32)), (.ref ba)]))
    refine W190.callS (y := (⟨"java/lang/StringUTF16", "toBytes", "([CII)[B"⟩ : MethodName)) (wd45 hw) (wd46 hw) (wd37 hw) (wd47 hw) (by decide) (c_tb2 l Z a0 hw hEL h191 W190.old ba kb c0 c1 PSH (A_b.ext X199)) all0 (by decide) (by decide) (k' := 2) (n' := 6) rfl rfl (by decide) (by decide) (by rw [hml]; rfl) (argsL := [(.ref ba), (.int (0 : Int32)), (.int (2 : Int32))]) (rest := []) (lenOf pd_5 rfl) rfl rfl (Wt := 0) (Nat.le_of_eq rfl) (hb hby dc8_23) ?_
    intro v_ T200 h202 W201 hq_
    obtain ⟨ta, k_ta, rfl, X2, E_ta, A_ta⟩ := hq_
    refine Go.by (fun t9_ q9_ => XS.astore W201.here W201.hx rfl (hb hby dc8_26) rfl rfl (l' := #[.val (.ref ba), .val (.int (0 : Int32)), .val (.int (2 : Int32)), .val (.ref da), .val (.int (1 : Int32)), .val (.ref ta)]) rfl (XS.aload W201.here W201.hx rfl (hb hby dc8_28) rfl rfl (XS.iload W201.here W201.hx rfl (hb hby dc8_30) rfl q9_))) ?_
    show Go _ _ _ _ _ _ _ _ _ (T200.setTop (mkF m 32 #[.val (.ref ba), .val (.int (0 : Int32)), .val (.int (2 : Int32)), .val (.ref da), .val (.int (1 : Int32)), .val (.ref ta)] [(.int (1 : Int32)), (.ref ta)]))
    refine W201.callSp (y := (⟨"java/lang/StringUTF16", "getChar", "([BI)C"⟩ : MethodName)) (wd61 hw) (wd62 hw) (wd37 hw) (wd63 hw) (by decide) (c_get2_1 l Z a0 hw hEL h202 W201.old ta k_ta _ _ _ c1 PSH A_ta rfl rfl (StrChars.pair_says r1.1 r1.2) r1) all0 (by decide) (by decide) (k' := 2) (n' := 6) rfl rfl (by decide) (by decide) (by rw [hml]; rfl) (argsL := [(.ref ta), (.int (1 : Int32))]) (rest := []) (lenOf pd_6 rfl) rfl rfl (Wt := 0) (Nat.le_of_eq rfl) (hb hby dc8_32) ?_
    intro T203 W204
    refine Go.by (fun t9_ q9_ => XS.sipush W204.here W204.hx rfl (hb hby dc8_35) q9_) ?_
    refine Go.by (fun t9_ q9_ => XS.icmpYes W204.here W204.hx rfl (pc0 := 38) (pc' := 54) rfl (hb hby dc8_38) rfl (tlt e1).2.2.1 (by decide) (by decide) q9_) ?_
    refine Go.by (fun t9_ q9_ => XS.aload W204.here W204.hx rfl (hb hby dc8_54) rfl rfl q9_) ?_
    have X205 : Ext h0 h202 := (Ext.trans' X199 X2)
    show Go _ _ _ _ _ _ _ _ _ (T203.setTop (mkF m 56 #[.val (.ref ba), .val (.int (0 : Int32)), .val (.int (2 : Int32)), .val (.ref da), .val (.int (1 : Int32)), .val (.ref ta)] [(.ref ta)]))
    exact W204.retA (by decide) (by decide) hret rfl rfl (hb hby dc8_56) ⟨ta, k_ta, rfl, X205, E_ta, A_ta⟩
theorem c_cod2 (l : Launch) (Z : State) (a0 : Array Value) (hw : HW Z a0) (hEL : EW Z a0 [("java/lang/String", 7)]) (h0 : Heap) (hE0 : Ext Z.heap h0) (ta : Addr) (k_ta : ClassId) (vs : List Value) (A_t : Arv Z h0 ta k_ta .byte (4 : Int32) vs (.int (0 : Int32))) :
    Con l Z [("java/lang/String", 7)] [] (⟨"java/lang/StringUTF16", "coderFromArrayLen", "([BI)B"⟩ : MethodName) jdk_52_method_15_code 2 (some .byte) [] (⟨0, 0, 0, 0⟩ : Room) #[(.ref ta), (.int (2 : Int32))] h0 (fun v h' => v = (some (.int 1)) ∧ h' = h0) := by
  refine Con.mk (plainFor_of_name pn_1) hEL hE0 (fun x hx => by cases hx) ?_
  intro p e s m below meth c T0 hby hml hret hnm W0
  rw [(show entryFrame m #[(.ref ta), (.int (2 : Int32))] 2 = mkF m 0 #[.val (.ref ta), .val (.int (2 : Int32))] [] from by first | (simp [entryFrame, mkF, argsToLocals, Value.category]; done) | rfl)]
  refine Go.by (fun t9_ q9_ => XS.iloadN W0.here W0.hx rfl (hb hby dc9_0) rfl (XS.aloadN W0.here W0.hx rfl (hb hby dc9_1) rfl rfl q9_)) ?_
  show Go _ _ _ _ _ _ _ _ _ (T0.setTop (mkF m 2 #[.val (.ref ta), .val (.int (2 : Int32))] [(.ref ta), (.int (2 : Int32))]))
  refine W0.alen A_t (hb hby dc9_2) ?_
  refine Go.by (fun t9_ q9_ => XS.isub W0.here W0.hx rfl (hb hby dc9_3) rfl (XS.bipush W0.here W0.hx rfl (hb hby dc9_4) (XS.iushr W0.here W0.hx rfl (hb hby dc9_6) rfl (XS.i2b W0.here W0.hx rfl (hb hby dc9_7) rfl q9_)))) ?_
  show Go _ _ _ _ _ _ _ _ _ (T0.setTop (mkF m 8 #[.val (.ref ta), .val (.int (2 : Int32))] [(.int (((((2 : Int32) - (4 : Int32)).toUInt32 >>> ((31 : Int32) &&& 31).toUInt32).toInt32).toInt8.toInt32))]))
  exact W0.retN (z' := (1 : Int32)) (by decide) (by decide) hret (by simp) (hb hby dc9_8) (by decide) ⟨rfl, rfl⟩
theorem c_s4_2 (l : Launch) (Z : State) (a0 : Array Value) (hw : HW Z a0) (hEL : EW Z a0 [("java/lang/String", 7)]) (h0 : Heap) (hE0 : Ext Z.heap h0) (x ba : Addr) (kb : ClassId) (c0 c1 G1 : Int32) (E_x : Exa Z h0 x "java/lang/String") (FV : Fld Z h0 x "java/lang/String" "value" "[B" .null) (FC : Fld Z h0 x "java/lang/String" "coder" "B" (.int 0)) (z_x : Z.heap.size ≤ x) (PSH : PS3 Z) (SG1 : Sta Z Z.heap "java/lang/String" "COMPACT_STRINGS" "Z" (.int G1)) (hG : ¬ G1 = 0) (A_b : Arv Z h0 ba kb .char (2 : Int32) [(.int c0), (.int c1)] (.int (0 : Int32))) (r0 : ¬ c0 < 0 ∧ ¬ (65535 : Int32) < c0) (r1 : ¬ c1 < 0 ∧ ¬ (65535 : Int32) < c1) (hbig : (255 : Int32) < c0 ∨ (255 : Int32) < c1) :
    Con l Z [("java/lang/String", 7)] [x] (⟨"java/lang/String", "<init>", "([CIILjava/lang/Void;)V"⟩ : MethodName) jdk_42_method_149_code 6 none [] (⟨4, 2, 6, 57⟩ : Room) #[(.ref x), (.ref ba), (.int (0 : Int32)), (.int (2 : Int32)), .null] h0 (fun v h' => v = none ∧ Keep h0 h' [x] ∧ ∃ ta kt, Exa Z h' x "java/lang/String" ∧ Fld Z h' x "java/lang/String" "value" "[B" (.ref ta) ∧ Fld Z h' x "java/lang/String" "coder" "B" (.int 1) ∧ Arv Z h' ta kt .byte (4 : Int32) [(.int (StrChars.lo8 c0)), (.int (StrChars.hi8 c0)), (.int (StrChars.lo8 c1)), (.int (StrChars.hi8 c1))] (.int (0 : Int32))) := by
  refine Con.mk (plainFor_of_name pn_0) hEL hE0 (allS E_x.lt all0) ?_
  intro p e s m below meth c T0 hby hml hret hnm W0
  rw [(show entryFrame m #[(.ref x), (.ref ba), (.int (0 : Int32)), (.int (2 : Int32)), .null] 6 = mkF m 0 #[.val (.ref x), .val (.ref ba), .val (.int (0 : Int32)), .val (.int (2 : Int32)), .val .null, .unset] [] from by first | (simp [entryFrame, mkF, argsToLocals, Value.category]; done) | rfl)]
  refine Go.by (fun t9_ q9_ => XS.aloadN W0.here W0.hx rfl (hb hby dc0_0) rfl rfl q9_) ?_
  show Go _ _ _ _ _ _ _ _ _ (T0.setTop (mkF m 1 #[.val (.ref x), .val (.ref ba), .val (.int (0 : Int32)), .val (.int (2 : Int32)), .val .null, .unset] [(.ref x)]))
  refine W0.initO (wd19 hw) (wd20 hw) (wd21 hw) (by rw [hml]; rfl) (hb hby dc0_1) (by decide) (Wt := 0) (Nat.le_of_eq rfl) (by decide) ?_
  intro T206 W207
  refine Go.by (fun t9_ q9_ => XS.iloadN W207.here W207.hx rfl (hb hby dc0_4) rfl q9_) ?_
  refine Go.by (fun t9_ q9_ => XS.ifYes W207.here W207.hx rfl (pc0 := 5) (pc' := 27) rfl (hb hby dc0_5) rfl ((if0 _ _).trans (feq (by decide)).2) (by decide) (by decide) q9_) ?_
  show Go _ _ _ _ _ _ _ _ _ (T206.setTop (mkF m 27 #[.val (.ref x), .val (.ref ba), .val (.int (0 : Int32)), .val (.int (2 : Int32)), .val .null, .unset] []))
  refine W207.gets (host := "") (Or.inl (wd34 hw)) Via.refl (SG1.ext W207.old) (hb hby dc0_27) ?_
  intro T208 W209
  refine Go.by (fun t9_ q9_ => XS.ifNo W209.here W209.hx rfl (hb hby dc0_30) rfl ((if0 _ _).trans (feq hG).1) q9_) ?_
  refine Go.by (fun t9_ q9_ => XS.aloadN W209.here W209.hx rfl (hb hby dc0_33) rfl rfl (XS.iloadN W209.here W209.hx rfl (hb hby dc0_34) rfl (XS.iloadN W209.here W209.hx rfl (hb hby dc0_35) rfl q9_))) ?_
  show Go _ _ _ _ _ _ _ _ _ (T208.setTop (mkF m 36 #[.val (.ref x), .val (.ref ba), .val (.int (0 : Int32)), .val (.int (2 : Int32)), .val .null, .unset] [(.int (2 : Int32)), (.int (0 : Int32)), (.ref ba)]))
  refine W209.callS (y := (⟨"java/lang/StringUTF16", "compress", "([CII)[B"⟩ : MethodName)) (wd35 hw) (wd36 hw) (wd37 hw) (wd38 hw) (by decide) (c_cm3_2 l Z a0 hw hEL h0 W209.old ba kb c0 c1 PSH A_b r0 r1 hbig) all0 (by decide) (by decide) (k' := 2) (n' := 6) rfl rfl (by decide) (by decide) (by rw [hml]; rfl) (argsL := [(.ref ba), (.int (0 : Int32)), (.int (2 : Int32))]) (rest := []) (lenOf pd_5 rfl) rfl rfl (Wt := 0) (Nat.le_of_eq rfl) (hb hby dc0_36) ?_
  intro v_ T210 h212 W211 hq_
  obtain ⟨ta, k_ta, rfl, X1, E_ta, A_ta⟩ := hq_
  refine Go.by (fun t9_ q9_ => XS.astore W211.here W211.hx rfl (hb hby dc0_39) rfl rfl (l' := #[.val (.ref x), .val (.ref ba), .val (.int (0 : Int32)), .val (.int (2 : Int32)), .val .null, .val (.ref ta)]) rfl (XS.aloadN W211.here W211.hx rfl (hb hby dc0_41) rfl rfl (XS.aload W211.here W211.hx rfl (hb hby dc0_42) rfl rfl (XS.iloadN W211.here W211.hx rfl (hb hby dc0_44) rfl q9_)))) ?_
  show Go _ _ _ _ _ _ _ _ _ (T210.setTop (mkF m 45 #[.val (.ref x), .val (.ref ba), .val (.int (0 : Int32)), .val (.int (2 : Int32)), .val .null, .val (.ref ta)] [(.int (2 : Int32)), (.ref ta), (.ref x)]))
  refine W211.callSp (y := (⟨"java/lang/StringUTF16", "coderFromArrayLen", "([BI)B"⟩ : MethodName)) (wd42 hw) (wd43 hw) (wd37 hw) (wd44 hw) (by decide) (c_cod2 l Z a0 hw hEL h212 W211.old ta k_ta _ A_ta) all0 (by decide) (by decide) (k' := 2) (n' := 6) rfl rfl (by decide) (by decide) (by rw [hml]; rfl) (argsL := [(.ref ta), (.int (2 : Int32))]) (rest := [(.ref x)]) (lenOf pd_7 rfl) rfl rfl (Wt := 1) (Nat.le_of_eq rfl) (hb hby dc0_45) ?_
  intro T213 W214
  show Go _ _ _ _ _ _ _ _ _ (T213.setTop (mkF m 48 #[.val (.ref x), .val (.ref ba), .val (.int (0 : Int32)), .val (.int (2 : Int32)), .val .null, .val (.ref ta)] [(.int (1 : Int32)), (.ref x)]))
  refine W214.putf (host := "") (Or.inl (wd29 hw)) Via.refl (FC.ext X1) (E_x.ext X1) (Or.inr ⟨(wd25 hw), rfl, hnm⟩) (wd9 hw) (ty := .byte) (by decide) rfl rfl z_x (List.mem_of_getElem? (i := 0) rfl) (hb hby dc0_48) ?_
  intro T215 h216 W217 Wr218
  have F219 : Fld Z h216 x "java/lang/String" "coder" "B" (.int (1 : Int32)) := (FC.ext X1).same Wr218
  have F220 : Fld Z h216 x "java/lang/String" "value" "[B" .null := (FV.ext X1).other Wr218 (Or.inr (slot_ne (Or.inr (wd24 hw)) (Or.inr (wd25 hw)) (by decide) (t := (.array .byte)) (t' := .byte) (by decide) (by decide)))
  have A221 : Exa Z h216 x "java/lang/String" := (E_x.ext X1).wr Wr218
  refine Go.by (fun t9_ q9_ => XS.aloadN W217.here W217.hx rfl (hb hby dc0_51) rfl rfl (XS.aload W217.here W217.hx rfl (hb hby dc0_52) rfl rfl q9_)) ?_
  show Go _ _ _ _ _ _ _ _ _ (T215.setTop (mkF m 54 #[.val (.ref x), .val (.ref ba), .val (.int (0 : Int32)), .val (.int (2 : Int32)), .val .null, .val (.ref ta)] [(.ref ta), (.ref x)]))
  refine W217.putf (host := "") (Or.inl (wd28 hw)) Via.refl F220 A221 (Or.inr ⟨(wd24 hw), rfl, hnm⟩) (wd9 hw) (ty := (.array .byte)) (by decide) rfl rfl z_x (List.mem_of_getElem? (i := 0) rfl) (hb hby dc0_54) ?_
  intro T222 h223 W224 Wr225
  have F226 : Fld Z h223 x "java/lang/String" "value" "[B" (.ref ta) := F220.same Wr225
  have F227 : Fld Z h223 x "java/lang/String" "coder" "B" (.int (1 : Int32)) := F219.other Wr225 (Or.inr (slot_ne (Or.inr (wd25 hw)) (Or.inr (wd24 hw)) (by decide) (t := .byte) (t' := (.array .byte)) (by decide) (by decide)))
  have A228 : Exa Z h223 x "java/lang/String" := A221.wr Wr225
  show Go _ _ _ _ _ _ _ _ _ (T222.setTop (mkF m 57 #[.val (.ref x), .val (.ref ba), .val (.int (0 : Int32)), .val (.int (2 : Int32)), .val .null, .val (.ref ta)] []))
  exact W224.retV (by decide) (by decide) hret (hb hby dc0_57) ⟨rfl, ((((Keep.refl h0 [x]).ext X1).wr Wr218 (Or.inl (List.mem_of_getElem? (i := 0) rfl))).wr Wr225 (Or.inl (List.mem_of_getElem? (i := 0) rfl))), ta, k_ta, A228, F226, F227, ((A_ta.other Wr218 (Exa.ne E_ta (E_x.ext X1) (by decide))).other Wr225 (Exa.ne (E_ta.wr Wr218) A221 (by decide)))⟩
theorem c_s16_2 (l : Launch) (Z : State) (a0 : Array Value) (hw : HW Z a0) (hEL : EW Z a0 [("java/lang/String", 7)]) (h0 : Heap) (hE0 : Ext Z.heap h0) (x ba : Addr) (kb : ClassId) (c0 c1 G1 : Int32) (E_x : Exa Z h0 x "java/lang/String") (FV : Fld Z h0 x "java/lang/String" "value" "[B" .null) (FC : Fld Z h0 x "java/lang/String" "coder" "B" (.int 0)) (z_x : Z.heap.size ≤ x) (PSH : PS3 Z) (SG1 : Sta Z Z.heap "java/lang/String" "COMPACT_STRINGS" "Z" (.int G1)) (hG : ¬ G1 = 0) (A_b : Arv Z h0 ba kb .char (2 : Int32) [(.int c0), (.int c1)] (.int (0 : Int32))) (r0 : ¬ c0 < 0 ∧ ¬ (65535 : Int32) < c0) (r1 : ¬ c1 < 0 ∧ ¬ (65535 : Int32) < c1) (hbig : (255 : Int32) < c0 ∨ (255 : Int32) < c1) :
    Con l Z [("java/lang/String", 7)] [x] (⟨"java/lang/String", "<init>", "([C)V"⟩ : MethodName) jdk_42_method_3_code 2 none [] (⟨5, 2, 6, 74⟩ : Room) #[(.ref x), (.ref ba)] h0 (fun v h' => v = none ∧ Keep h0 h' [x] ∧ ∃ ta kt, Exa Z h' x "java/lang/String" ∧ Fld Z h' x "java/lang/String" "value" "[B" (.ref ta) ∧ Fld Z h' x "java/lang/String" "coder" "B" (.int 1) ∧ Arv Z h' ta kt .byte (4 : Int32) [(.int (StrChars.lo8 c0)), (.int (StrChars.hi8 c0)), (.int (StrChars.lo8 c1)), (.int (StrChars.hi8 c1))] (.int (0 : Int32))) := by
  refine Con.mk (plainFor_of_name pn_0) hEL hE0 (allS E_x.lt all0) ?_
  intro p e s m below meth c T0 hby hml hret hnm W0
  rw [(show entryFrame m #[(.ref x), (.ref ba)] 2 = mkF m 0 #[.val (.ref x), .val (.ref ba)] [] from by first | (simp [entryFrame, mkF, argsToLocals, Value.category]; done) | rfl)]
  refine Go.by (fun t9_ q9_ => XS.aloadN W0.here W0.hx rfl (hb hby dc1_0) rfl rfl (XS.aloadN W0.here W0.hx rfl (hb hby dc1_1) rfl rfl (XS.iconst W0.here W0.hx rfl (hb hby dc1_2) (XS.aloadN W0.here W0.hx rfl (hb hby dc1_3) rfl rfl q9_)))) ?_
  show Go _ _ _ _ _ _ _ _ _ (T0.setTop (mkF m 4 #[.val (.ref x), .val (.ref ba)] [(.ref ba), (.int (0 : Int32)), (.ref ba), (.ref x)]))
  refine W0.alen A_b (hb hby dc1_4) ?_
  refine Go.by (fun t9_ q9_ => XS.aconstNull W0.here W0.hx rfl (hb hby dc1_5) q9_) ?_
  show Go _ _ _ _ _ _ _ _ _ (T0.setTop (mkF m 6 #[.val (.ref x), .val (.ref ba)] [.null, (.int (2 : Int32)), (.int (0 : Int32)), (.ref ba), (.ref x)]))
  refine W0.callI (y := (⟨"java/lang/String", "<init>", "([CIILjava/lang/Void;)V"⟩ : MethodName)) rfl (wd15 hw) (wd16 hw) (wd10 hw) (wd18 hw) (by decide) (a := x) (c_s4_2 l Z a0 hw hEL h0 hE0 x ba kb c0 c1 G1 E_x FV FC z_x PSH SG1 hG A_b r0 r1 hbig) (allS (List.mem_of_getElem? (i := 0) rfl) all0) (by decide) (by decide) (k' := 2) (n' := 6) rfl rfl (by decide) (by decide) (by rw [hml]; rfl) (argsL := [(.ref ba), (.int (0 : Int32)), (.int (2 : Int32)), .null]) (rest := []) (lenOf pd_0 rfl) rfl rfl (Wt := 0) (Nat.le_of_eq rfl) (hb hby dc1_6) ?_
  intro v_ T229 h231 W230 hq_
  obtain ⟨rfl, K1, S1⟩ := hq_
  show Go _ _ _ _ _ _ _ _ _ (T229.setTop (mkF m 9 #[.val (.ref x), .val (.ref ba)] []))
  exact W230.retV (by decide) (by decide) hret (hb hby dc1_9) ⟨rfl, K1, S1⟩
theorem c_nbl3 (l : Launch) (Z : State) (a0 : Array Value) (hw : HW Z a0) (hEL : EW Z a0 [("java/lang/String", 7)]) (h0 : Heap) (hE0 : Ext Z.heap h0)   :
    Con l Z [("java/lang/String", 7)] [] (⟨"java/lang/StringUTF16", "newBytesLength", "(I)I"⟩ : MethodName) jdk_52_method_3_code 1 (some .int) [] (⟨0, 0, 0, 0⟩ : Room) #[(.int (3 : Int32))] h0 (fun v h' => v = (some (.int (6 : Int32))) ∧ h' = h0) := by
  refine Con.mk (plainFor_of_name pn_1) hEL hE0 (fun x hx => by cases hx) ?_
  intro p e s m below meth c T0 hby hml hret hnm W0
  rw [(show entryFrame m #[(.int (3 : Int32))] 1 = mkF m 0 #[.val (.int (3 : Int32))] [] from by first | (simp [entryFrame, mkF, argsToLocals, Value.category]; done) | rfl)]
  refine Go.by (fun t9_ q9_ => XS.iloadN W0.here W0.hx rfl (hb hby dc2_0) rfl q9_) ?_
  refine Go.by (fun t9_ q9_ => XS.ifYes W0.here W0.hx rfl (pc0 := 1) (pc' := 12) rfl (hb hby dc2_1) rfl ((if0 _ _).trans (flt (by decide)).2.1) (by decide) (by decide) q9_) ?_
  refine Go.by (fun t9_ q9_ => XS.iloadN W0.here W0.hx rfl (hb hby dc2_12) rfl q9_) ?_
  show Go _ _ _ _ _ _ _ _ _ (T0.setTop (mkF m 13 #[.val (.int (3 : Int32))] [(.int (3 : Int32))]))
  refine W0.ldcI (wd54 hw) (hb hby dc2_13) ?_
  refine Go.by (fun t9_ q9_ => XS.icmpYes W0.here W0.hx rfl (pc0 := 15) (pc' := 55) rfl (hb hby dc2_15) rfl (tlt (by decide)).1 (by decide) (by decide) q9_) ?_
  refine Go.by (fun t9_ q9_ => XS.iloadN W0.here W0.hx rfl (hb hby dc2_55) rfl (XS.iconst W0.here W0.hx rfl (hb hby dc2_56) (XS.ishl W0.here W0.hx rfl (hb hby dc2_57) rfl q9_))) ?_
  show Go _ _ _ _ _ _ _ _ _ (T0.setTop (mkF m 58 #[.val (.int (3 : Int32))] [(.int ((3 : Int32) <<< ((1 : Int32) &&& 31)))]))
  rw [show ((3 : Int32) <<< ((1 : Int32) &&& 31)) = (6 : Int32) from by decide]
  show Go _ _ _ _ _ _ _ _ _ (T0.setTop (mkF m 58 #[.val (.int (3 : Int32))] [(.int (6 : Int32))]))
  exact W0.retI (by decide) (by decide) hret (hb hby dc2_58) ⟨rfl, rfl⟩
theorem c_nbf3 (l : Launch) (Z : State) (a0 : Array Value) (hw : HW Z a0) (hEL : EW Z a0 [("java/lang/String", 7)]) (h0 : Heap) (hE0 : Ext Z.heap h0)   :
    Con l Z [("java/lang/String", 7)] [] (⟨"java/lang/StringUTF16", "newBytesFor", "(I)[B"⟩ : MethodName) jdk_52_method_2_code 1 (some (.array .byte)) [] (⟨1, 1, 6, 12⟩ : Room) #[(.int (3 : Int32))] h0 (fun v h' => ∃ ta kt, v = some (.ref ta) ∧ Ext h0 h' ∧ Z.heap.size ≤ ta ∧ h0.size = ta ∧ Exa Z h' ta "[B" ∧ Arv Z h' ta kt .byte (6 : Int32) [(.int (0 : Int32)), (.int (0 : Int32)), (.int (0 : Int32)), (.int (0 : Int32)), (.int (0 : Int32)), (.int (0 : Int32))] (.int (0 : Int32))) := by
  refine Con.mk (plainFor_of_name pn_1) hEL hE0 (fun x hx => by cases hx) ?_
  intro p e s m below meth c T0 hby hml hret hnm W0
  rw [(show entryFrame m #[(.int (3 : Int32))] 1 = mkF m 0 #[.val (.int (3 : Int32))] [] from by first | (simp [entryFrame, mkF, argsToLocals, Value.category]; done) | rfl)]
  refine Go.by (fun t9_ q9_ => XS.iloadN W0.here W0.hx rfl (hb hby dc3_0) rfl q9_) ?_
  show Go _ _ _ _ _ _ _ _ _ (T0.setTop (mkF m 1 #[.val (.int (3 : Int32))] [(.int (3 : Int32))]))
  refine W0.callSp (y := (⟨"java/lang/StringUTF16", "newBytesLength", "(I)I"⟩ : MethodName)) (wd51 hw) (wd52 hw) (wd37 hw) (wd53 hw) (by decide) (c_nbl3 l Z a0 hw hEL h0 hE0) all0 (by decide) (by decide) (k' := 0) (n' := 0) rfl rfl (by decide) (by decide) (by rw [hml]; rfl) (argsL := [(.int (3 : Int32))]) (rest := []) (lenOf pd_1 rfl) rfl rfl (Wt := 0) (Nat.le_of_eq rfl) (hb hby dc3_1) ?_
  intro T232 W233
  show Go _ _ _ _ _ _ _ _ _ (T232.setTop (mkF m 4 #[.val (.int (3 : Int32))] [(.int (6 : Int32))]))
  refine W233.newp (aty := .byte) (wd23 hw) (hb hby dc3_4) (by decide) (cap := 6) (by decide) (by decide) (k' := 1) (n' := 6) rfl rfl (by decide) (by decide) (ad := "[B") rfl ?_
  intro T234 h235 ta k_ta W236 E237 g_ta z_ta A_ta V_ta
  have V1_ta : Arv Z h235 ta k_ta .byte (6 : Int32) [(.int (0 : Int32)), (.int (0 : Int32)), (.int (0 : Int32)), (.int (0 : Int32)), (.int (0 : Int32)), (.int (0 : Int32))] (.int (0 : Int32)) := V_ta.pad (pad_rep [] (.int (0 : Int32)) 6)
  show Go _ _ _ _ _ _ _ _ _ (T234.setTop (mkF m 6 #[.val (.int (3 : Int32))] [(.ref ta)]))
  exact W236.retA (by decide) (by decide) hret rfl rfl (hb hby dc3_6) ⟨ta, k_ta, rfl, E237, z_ta, g_ta, A_ta, V1_ta⟩
theorem c_put3_0 (l : Launch) (Z : State) (a0 : Array Value) (hw : HW Z a0) (hEL : EW Z a0 [("java/lang/String", 7)]) (h0 : Heap) (hE0 : Ext Z.heap h0) (ta : Addr) (k_ta : ClassId) (b0 b1 b2 b3 b4 b5 : Value) (cc : Int32) (PSH : PS3 Z) (A_t : Arv Z h0 ta k_ta .byte (6 : Int32) [b0, b1, b2, b3, b4, b5] (.int (0 : Int32))) (z_ta : Z.heap.size ≤ ta) :
    Con l Z [("java/lang/String", 7)] [ta] (⟨"java/lang/StringUTF16", "putChar", "([BII)V"⟩ : MethodName) jdk_52_method_4_code 3 none [] (⟨0, 0, 0, 0⟩ : Room) #[(.ref ta), (.int (0 : Int32)), (.int cc)] h0 (fun v h' => v = none ∧ Keep h0 h' [ta] ∧ Arv Z h' ta k_ta .byte (6 : Int32) [(.int (StrChars.lo8 cc)), (.int (StrChars.hi8 cc)), b2, b3, b4, b5] (.int (0 : Int32))) := by
  refine Con.mk (plainFor_of_name pn_1) hEL hE0 (allS A_t.lt all0) ?_
  intro p e s m below meth c T0 hby hml hret hnm W0
  rw [(show entryFrame m #[(.ref ta), (.int (0 : Int32)), (.int cc)] 3 = mkF m 0 #[.val (.ref ta), .val (.int (0 : Int32)), .val (.int cc)] [] from by first | (simp [entryFrame, mkF, argsToLocals, Value.category]; done) | rfl)]
  refine W0.gets (host := "") (Or.inl (wd58 hw)) Via.refl (PSH.ad.ext W0.old) (hb hby dc4_0) ?_
  intro T238 W239
  refine Go.by (fun t9_ q9_ => XS.ifYes W239.here W239.hx rfl (pc0 := 3) (pc' := 28) rfl (hb hby dc4_3) rfl ((if0 _ _).trans (feq (by decide)).2) (by decide) (by decide) q9_) ?_
  refine Go.by (fun t9_ q9_ => XS.iloadN W239.here W239.hx rfl (hb hby dc4_28) rfl (XS.iconst W239.here W239.hx rfl (hb hby dc4_29) (XS.ishl W239.here W239.hx rfl (hb hby dc4_30) rfl (XS.istoreN W239.here W239.hx rfl (hb hby dc4_31) rfl (l' := #[.val (.ref ta), .val (.int ((0 : Int32) <<< ((1 : Int32) &&& 31))), .val (.int cc)]) rfl q9_)))) ?_
  show Go _ _ _ _ _ _ _ _ _ (T238.setTop (mkF m 32 #[.val (.ref ta), .val (.int ((0 : Int32) <<< ((1 : Int32) &&& 31))), .val (.int cc)] []))
  rw [show ((0 : Int32) <<< ((1 : Int32) &&& 31)) = (0 : Int32) from by decide]
  refine Go.by (fun t9_ q9_ => XS.aloadN W239.here W239.hx rfl (hb hby dc4_32) rfl rfl (XS.iloadN W239.here W239.hx rfl (hb hby dc4_33) rfl (XS.iinc W239.here W239.hx rfl (hb hby dc4_34) rfl (l' := #[.val (.ref ta), .val (.int ((0 : Int32) + (1 : Int32))), .val (.int cc)]) rfl q9_))) ?_
  show Go _ _ _ _ _ _ _ _ _ (T238.setTop (mkF m 37 #[.val (.ref ta), .val (.int (1 : Int32)), .val (.int cc)] [(.int (0 : Int32)), (.ref ta)]))
  refine Go.by (fun t9_ q9_ => XS.iloadN W239.here W239.hx rfl (hb hby dc4_37) rfl q9_) ?_
  show Go _ _ _ _ _ _ _ _ _ (T238.setTop (mkF m 38 #[.val (.ref ta), .val (.int (1 : Int32)), .val (.int cc)] [(.int cc), (.int (0 : Int32)), (.ref ta)]))
  refine W239.gets (host := "") (Or.inl (wd59 hw)) Via.refl (PSH.hi.ext W239.old) (hb hby dc4_38) ?_
  intro T240 W241
  refine Go.by (fun t9_ q9_ => XS.ishr W241.here W241.hx rfl (hb hby dc4_41) rfl (XS.i2b W241.here W241.hx rfl (hb hby dc4_42) rfl q9_)) ?_
  show Go _ _ _ _ _ _ _ _ _ (T240.setTop (mkF m 43 #[.val (.ref ta), .val (.int (1 : Int32)), .val (.int cc)] [(.int ((cc >>> ((0 : Int32) &&& 31)).toInt8.toInt32)), (.int (0 : Int32)), (.ref ta)]))
  refine W241.bast A_t ⟨by decide, by decide⟩ (i := 0) rfl (by simp) (v' := (StrChars.lo8 cc)) (by rw [StrChars.shr0]; simp [nar, StrChars.lo8, lo8_lo8]) z_ta (List.mem_of_getElem? (i := 0) rfl) (hb hby dc4_43) ?_
  intro T242 h243 W244 Wr245 V246_ta'
  have V246_ta : Arv Z h243 ta k_ta .byte (6 : Int32) [(.int (StrChars.lo8 cc)), b1, b2, b3, b4, b5] (.int (0 : Int32)) := V246_ta'
  refine Go.by (fun t9_ q9_ => XS.aloadN W244.here W244.hx rfl (hb hby dc4_44) rfl rfl (XS.iloadN W244.here W244.hx rfl (hb hby dc4_45) rfl (XS.iloadN W244.here W244.hx rfl (hb hby dc4_46) rfl q9_))) ?_
  show Go _ _ _ _ _ _ _ _ _ (T242.setTop (mkF m 47 #[.val (.ref ta), .val (.int (1 : Int32)), .val (.int cc)] [(.int cc), (.int (1 : Int32)), (.ref ta)]))
  refine W244.gets (host := "") (Or.inl (wd60 hw)) Via.refl (PSH.lo.ext W244.old) (hb hby dc4_47) ?_
  intro T247 W248
  refine Go.by (fun t9_ q9_ => XS.ishr W248.here W248.hx rfl (hb hby dc4_50) rfl (XS.i2b W248.here W248.hx rfl (hb hby dc4_51) rfl q9_)) ?_
  show Go _ _ _ _ _ _ _ _ _ (T247.setTop (mkF m 52 #[.val (.ref ta), .val (.int (1 : Int32)), .val (.int cc)] [(.int ((cc >>> ((8 : Int32) &&& 31)).toInt8.toInt32)), (.int (1 : Int32)), (.ref ta)]))
  refine W248.bast V246_ta ⟨by decide, by decide⟩ (i := 1) rfl (by simp) (v' := (StrChars.hi8 cc)) (by simp [nar, StrChars.hi8, StrChars.lo8, lo8_lo8]) z_ta (List.mem_of_getElem? (i := 0) rfl) (hb hby dc4_52) ?_
  intro T249 h250 W251 Wr252 V253_ta'
  have V253_ta : Arv Z h250 ta k_ta .byte (6 : Int32) [(.int (StrChars.lo8 cc)), (.int (StrChars.hi8 cc)), b2, b3, b4, b5] (.int (0 : Int32)) := V253_ta'
  show Go _ _ _ _ _ _ _ _ _ (T249.setTop (mkF m 53 #[.val (.ref ta), .val (.int (1 : Int32)), .val (.int cc)] []))
  exact W251.retV (by decide) (by decide) hret (hb hby dc4_53) ⟨rfl, (((Keep.refl h0 [ta]).wr Wr245 (Or.inl (List.mem_of_getElem? (i := 0) rfl))).wr Wr252 (Or.inl (List.mem_of_getElem? (i := 0) rfl))), V253_ta⟩
theorem c_get3_0 (l : Launch) (Z : State) (a0 : Array Value) (hw : HW Z a0) (hEL : EW Z a0 [("java/lang/String", 7)]) (h0 : Heap) (hE0 : Ext Z.heap h0) (ta : Addr) (k_ta : ClassId) (vs : List Value) (uu vv cc : Int32) (PSH : PS3 Z) (A_t : Arv Z h0 ta k_ta .byte (6 : Int32) vs (.int (0 : Int32))) (hu : vs.getD 0 (.int (0 : Int32)) = .int uu) (hv : vs.getD 1 (.int (0 : Int32)) = .int vv) (hp : StrChars.pairCh uu vv = cc) (r_c : ¬ cc < 0 ∧ ¬ (65535 : Int32) < cc) :
    Con l Z [("java/lang/String", 7)] [] (⟨"java/lang/StringUTF16", "getChar", "([BI)C"⟩ : MethodName) jdk_52_method_5_code 2 (some .char) [] (⟨0, 0, 0, 0⟩ : Room) #[(.ref ta), (.int (0 : Int32))] h0 (fun v h' => v = (some (.int cc)) ∧ h' = h0) := by
  refine Con.mk (plainFor_of_name pn_1) hEL hE0 (fun x hx => by cases hx) ?_
  intro p e s m below meth c T0 hby hml hret hnm W0
  rw [(show entryFrame m #[(.ref ta), (.int (0 : Int32))] 2 = mkF m 0 #[.val (.ref ta), .val (.int (0 : Int32))] [] from by first | (simp [entryFrame, mkF, argsToLocals, Value.category]; done) | rfl)]
  refine W0.gets (host := "") (Or.inl (wd58 hw)) Via.refl (PSH.ad.ext W0.old) (hb hby dc5_0) ?_
  intro T254 W255
  refine Go.by (fun t9_ q9_ => XS.ifYes W255.here W255.hx rfl (pc0 := 3) (pc' := 28) rfl (hb hby dc5_3) rfl ((if0 _ _).trans (feq (by decide)).2) (by decide) (by decide) q9_) ?_
  refine Go.by (fun t9_ q9_ => XS.iloadN W255.here W255.hx rfl (hb hby dc5_28) rfl (XS.iconst W255.here W255.hx rfl (hb hby dc5_29) (XS.ishl W255.here W255.hx rfl (hb hby dc5_30) rfl (XS.istoreN W255.here W255.hx rfl (hb hby dc5_31) rfl (l' := #[.val (.ref ta), .val (.int ((0 : Int32) <<< ((1 : Int32) &&& 31)))]) rfl q9_)))) ?_
  show Go _ _ _ _ _ _ _ _ _ (T254.setTop (mkF m 32 #[.val (.ref ta), .val (.int ((0 : Int32) <<< ((1 : Int32) &&& 31)))] []))
  rw [show ((0 : Int32) <<< ((1 : Int32) &&& 31)) = (0 : Int32) from by decide]
  refine Go.by (fun t9_ q9_ => XS.aloadN W255.here W255.hx rfl (hb hby dc5_32) rfl rfl (XS.iloadN W255.here W255.hx rfl (hb hby dc5_33) rfl (XS.iinc W255.here W255.hx rfl (hb hby dc5_34) rfl (l' := #[.val (.ref ta), .val (.int ((0 : Int32) + (1 : Int32)))]) rfl q9_))) ?_
  show Go _ _ _ _ _ _ _ _ _ (T254.setTop (mkF m 37 #[.val (.ref ta), .val (.int (1 : Int32))] [(.int (0 : Int32)), (.ref ta)]))
  refine W255.bald A_t ⟨by decide, by decide⟩ (v := (.int uu)) hu (hb hby dc5_37) ?_
  refine Go.by (fun t9_ q9_ => XS.sipush W255.here W255.hx rfl (hb hby dc5_38) (XS.iand W255.here W255.hx rfl (hb hby dc5_41) rfl q9_)) ?_
  show Go _ _ _ _ _ _ _ _ _ (T254.setTop (mkF m 42 #[.val (.ref ta), .val (.int (1 : Int32))] [(.int (uu &&& (255 : Int32)))]))
  refine W255.gets (host := "") (Or.inl (wd59 hw)) Via.refl (PSH.hi.ext W255.old) (hb hby dc5_42) ?_
  intro T256 W257
  refine Go.by (fun t9_ q9_ => XS.ishl W257.here W257.hx rfl (hb hby dc5_45) rfl (XS.aloadN W257.here W257.hx rfl (hb hby dc5_46) rfl rfl (XS.iloadN W257.here W257.hx rfl (hb hby dc5_47) rfl q9_))) ?_
  show Go _ _ _ _ _ _ _ _ _ (T256.setTop (mkF m 48 #[.val (.ref ta), .val (.int (1 : Int32))] [(.int (1 : Int32)), (.ref ta), (.int ((uu &&& (255 : Int32)) <<< ((0 : Int32) &&& 31)))]))
  refine W257.bald A_t ⟨by decide, by decide⟩ (v := (.int vv)) hv (hb hby dc5_48) ?_
  refine Go.by (fun t9_ q9_ => XS.sipush W257.here W257.hx rfl (hb hby dc5_49) (XS.iand W257.here W257.hx rfl (hb hby dc5_52) rfl q9_)) ?_
  show Go _ _ _ _ _ _ _ _ _ (T256.setTop (mkF m 53 #[.val (.ref ta), .val (.int (1 : Int32))] [(.int (vv &&& (255 : Int32))), (.int ((uu &&& (255 : Int32)) <<< ((0 : Int32) &&& 31)))]))
  refine W257.gets (host := "") (Or.inl (wd60 hw)) Via.refl (PSH.lo.ext W257.old) (hb hby dc5_53) ?_
  intro T258 W259
  refine Go.by (fun t9_ q9_ => XS.ishl W259.here W259.hx rfl (hb hby dc5_56) rfl (XS.ior W259.here W259.hx rfl (hb hby dc5_57) rfl (XS.i2c W259.here W259.hx rfl (hb hby dc5_58) rfl q9_))) ?_
  show Go _ _ _ _ _ _ _ _ _ (T258.setTop (mkF m 59 #[.val (.ref ta), .val (.int (1 : Int32))] [(.int ((((uu &&& (255 : Int32)) <<< ((0 : Int32) &&& 31)) ||| ((vv &&& (255 : Int32)) <<< ((8 : Int32) &&& 31))).toUInt32.toUInt16.toUInt32.toInt32))]))
  exact W259.retN (z' := cc) (by decide) (by decide) hret (by simp) (hb hby dc5_59) (by show nar .char (StrChars.pairCh uu vv) = cc; rw [hp]; exact nar_id r_c) ⟨rfl, rfl⟩
theorem c_put3_1 (l : Launch) (Z : State) (a0 : Array Value) (hw : HW Z a0) (hEL : EW Z a0 [("java/lang/String", 7)]) (h0 : Heap) (hE0 : Ext Z.heap h0) (ta : Addr) (k_ta : ClassId) (b0 b1 b2 b3 b4 b5 : Value) (cc : Int32) (PSH : PS3 Z) (A_t : Arv Z h0 ta k_ta .byte (6 : Int32) [b0, b1, b2, b3, b4, b5] (.int (0 : Int32))) (z_ta : Z.heap.size ≤ ta) :
    Con l Z [("java/lang/String", 7)] [ta] (⟨"java/lang/StringUTF16", "putChar", "([BII)V"⟩ : MethodName) jdk_52_method_4_code 3 none [] (⟨0, 0, 0, 0⟩ : Room) #[(.ref ta), (.int (1 : Int32)), (.int cc)] h0 (fun v h' => v = none ∧ Keep h0 h' [ta] ∧ Arv Z h' ta k_ta .byte (6 : Int32) [b0, b1, (.int (StrChars.lo8 cc)), (.int (StrChars.hi8 cc)), b4, b5] (.int (0 : Int32))) := by
  refine Con.mk (plainFor_of_name pn_1) hEL hE0 (allS A_t.lt all0) ?_
  intro p e s m below meth c T0 hby hml hret hnm W0
  rw [(show entryFrame m #[(.ref ta), (.int (1 : Int32)), (.int cc)] 3 = mkF m 0 #[.val (.ref ta), .val (.int (1 : Int32)), .val (.int cc)] [] from by first | (simp [entryFrame, mkF, argsToLocals, Value.category]; done) | rfl)]
  refine W0.gets (host := "") (Or.inl (wd58 hw)) Via.refl (PSH.ad.ext W0.old) (hb hby dc4_0) ?_
  intro T260 W261
  refine Go.by (fun t9_ q9_ => XS.ifYes W261.here W261.hx rfl (pc0 := 3) (pc' := 28) rfl (hb hby dc4_3) rfl ((if0 _ _).trans (feq (by decide)).2) (by decide) (by decide) q9_) ?_
  refine Go.by (fun t9_ q9_ => XS.iloadN W261.here W261.hx rfl (hb hby dc4_28) rfl (XS.iconst W261.here W261.hx rfl (hb hby dc4_29) (XS.ishl W261.here W261.hx rfl (hb hby dc4_30) rfl (XS.istoreN W261.here W261.hx rfl (hb hby dc4_31) rfl (l' := #[.val (.ref ta), .val (.int ((1 : Int32) <<< ((1 : Int32) &&& 31))), .val (.int cc)]) rfl q9_)))) ?_
  show Go _ _ _ _ _ _ _ _ _ (T260.setTop (mkF m 32 #[.val (.ref ta), .val (.int ((1 : Int32) <<< ((1 : Int32) &&& 31))), .val (.int cc)] []))
  rw [show ((1 : Int32) <<< ((1 : Int32) &&& 31)) = (2 : Int32) from by decide]
  refine Go.by (fun t9_ q9_ => XS.aloadN W261.here W261.hx rfl (hb hby dc4_32) rfl rfl (XS.iloadN W261.here W261.hx rfl (hb hby dc4_33) rfl (XS.iinc W261.here W261.hx rfl (hb hby dc4_34) rfl (l' := #[.val (.ref ta), .val (.int ((2 : Int32) + (1 : Int32))), .val (.int cc)]) rfl q9_))) ?_
  show Go _ _ _ _ _ _ _ _ _ (T260.setTop (mkF m 37 #[.val (.ref ta), .val (.int (3 : Int32)), .val (.int cc)] [(.int (2 : Int32)), (.ref ta)]))
  refine Go.by (fun t9_ q9_ => XS.iloadN W261.here W261.hx rfl (hb hby dc4_37) rfl q9_) ?_
  show Go _ _ _ _ _ _ _ _ _ (T260.setTop (mkF m 38 #[.val (.ref ta), .val (.int (3 : Int32)), .val (.int cc)] [(.int cc), (.int (2 : Int32)), (.ref ta)]))
  refine W261.gets (host := "") (Or.inl (wd59 hw)) Via.refl (PSH.hi.ext W261.old) (hb hby dc4_38) ?_
  intro T262 W263
  refine Go.by (fun t9_ q9_ => XS.ishr W263.here W263.hx rfl (hb hby dc4_41) rfl (XS.i2b W263.here W263.hx rfl (hb hby dc4_42) rfl q9_)) ?_
  show Go _ _ _ _ _ _ _ _ _ (T262.setTop (mkF m 43 #[.val (.ref ta), .val (.int (3 : Int32)), .val (.int cc)] [(.int ((cc >>> ((0 : Int32) &&& 31)).toInt8.toInt32)), (.int (2 : Int32)), (.ref ta)]))
  refine W263.bast A_t ⟨by decide, by decide⟩ (i := 2) rfl (by simp) (v' := (StrChars.lo8 cc)) (by rw [StrChars.shr0]; simp [nar, StrChars.lo8, lo8_lo8]) z_ta (List.mem_of_getElem? (i := 0) rfl) (hb hby dc4_43) ?_
  intro T264 h265 W266 Wr267 V268_ta'
  have V268_ta : Arv Z h265 ta k_ta .byte (6 : Int32) [b0, b1, (.int (StrChars.lo8 cc)), b3, b4, b5] (.int (0 : Int32)) := V268_ta'
  refine Go.by (fun t9_ q9_ => XS.aloadN W266.here W266.hx rfl (hb hby dc4_44) rfl rfl (XS.iloadN W266.here W266.hx rfl (hb hby dc4_45) rfl (XS.iloadN W266.here W266.hx rfl (hb hby dc4_46) rfl q9_))) ?_
  show Go _ _ _ _ _ _ _ _ _ (T264.setTop (mkF m 47 #[.val (.ref ta), .val (.int (3 : Int32)), .val (.int cc)] [(.int cc), (.int (3 : Int32)), (.ref ta)]))
  refine W266.gets (host := "") (Or.inl (wd60 hw)) Via.refl (PSH.lo.ext W266.old) (hb hby dc4_47) ?_
  intro T269 W270
  refine Go.by (fun t9_ q9_ => XS.ishr W270.here W270.hx rfl (hb hby dc4_50) rfl (XS.i2b W270.here W270.hx rfl (hb hby dc4_51) rfl q9_)) ?_
  show Go _ _ _ _ _ _ _ _ _ (T269.setTop (mkF m 52 #[.val (.ref ta), .val (.int (3 : Int32)), .val (.int cc)] [(.int ((cc >>> ((8 : Int32) &&& 31)).toInt8.toInt32)), (.int (3 : Int32)), (.ref ta)]))
  refine W270.bast V268_ta ⟨by decide, by decide⟩ (i := 3) rfl (by simp) (v' := (StrChars.hi8 cc)) (by simp [nar, StrChars.hi8, StrChars.lo8, lo8_lo8]) z_ta (List.mem_of_getElem? (i := 0) rfl) (hb hby dc4_52) ?_
  intro T271 h272 W273 Wr274 V275_ta'
  have V275_ta : Arv Z h272 ta k_ta .byte (6 : Int32) [b0, b1, (.int (StrChars.lo8 cc)), (.int (StrChars.hi8 cc)), b4, b5] (.int (0 : Int32)) := V275_ta'
  show Go _ _ _ _ _ _ _ _ _ (T271.setTop (mkF m 53 #[.val (.ref ta), .val (.int (3 : Int32)), .val (.int cc)] []))
  exact W273.retV (by decide) (by decide) hret (hb hby dc4_53) ⟨rfl, (((Keep.refl h0 [ta]).wr Wr267 (Or.inl (List.mem_of_getElem? (i := 0) rfl))).wr Wr274 (Or.inl (List.mem_of_getElem? (i := 0) rfl))), V275_ta⟩
theorem c_get3_1 (l : Launch) (Z : State) (a0 : Array Value) (hw : HW Z a0) (hEL : EW Z a0 [("java/lang/String", 7)]) (h0 : Heap) (hE0 : Ext Z.heap h0) (ta : Addr) (k_ta : ClassId) (vs : List Value) (uu vv cc : Int32) (PSH : PS3 Z) (A_t : Arv Z h0 ta k_ta .byte (6 : Int32) vs (.int (0 : Int32))) (hu : vs.getD 2 (.int (0 : Int32)) = .int uu) (hv : vs.getD 3 (.int (0 : Int32)) = .int vv) (hp : StrChars.pairCh uu vv = cc) (r_c : ¬ cc < 0 ∧ ¬ (65535 : Int32) < cc) :
    Con l Z [("java/lang/String", 7)] [] (⟨"java/lang/StringUTF16", "getChar", "([BI)C"⟩ : MethodName) jdk_52_method_5_code 2 (some .char) [] (⟨0, 0, 0, 0⟩ : Room) #[(.ref ta), (.int (1 : Int32))] h0 (fun v h' => v = (some (.int cc)) ∧ h' = h0) := by
  refine Con.mk (plainFor_of_name pn_1) hEL hE0 (fun x hx => by cases hx) ?_
  intro p e s m below meth c T0 hby hml hret hnm W0
  rw [(show entryFrame m #[(.ref ta), (.int (1 : Int32))] 2 = mkF m 0 #[.val (.ref ta), .val (.int (1 : Int32))] [] from by first | (simp [entryFrame, mkF, argsToLocals, Value.category]; done) | rfl)]
  refine W0.gets (host := "") (Or.inl (wd58 hw)) Via.refl (PSH.ad.ext W0.old) (hb hby dc5_0) ?_
  intro T276 W277
  refine Go.by (fun t9_ q9_ => XS.ifYes W277.here W277.hx rfl (pc0 := 3) (pc' := 28) rfl (hb hby dc5_3) rfl ((if0 _ _).trans (feq (by decide)).2) (by decide) (by decide) q9_) ?_
  refine Go.by (fun t9_ q9_ => XS.iloadN W277.here W277.hx rfl (hb hby dc5_28) rfl (XS.iconst W277.here W277.hx rfl (hb hby dc5_29) (XS.ishl W277.here W277.hx rfl (hb hby dc5_30) rfl (XS.istoreN W277.here W277.hx rfl (hb hby dc5_31) rfl (l' := #[.val (.ref ta), .val (.int ((1 : Int32) <<< ((1 : Int32) &&& 31)))]) rfl q9_)))) ?_
  show Go _ _ _ _ _ _ _ _ _ (T276.setTop (mkF m 32 #[.val (.ref ta), .val (.int ((1 : Int32) <<< ((1 : Int32) &&& 31)))] []))
  rw [show ((1 : Int32) <<< ((1 : Int32) &&& 31)) = (2 : Int32) from by decide]
  refine Go.by (fun t9_ q9_ => XS.aloadN W277.here W277.hx rfl (hb hby dc5_32) rfl rfl (XS.iloadN W277.here W277.hx rfl (hb hby dc5_33) rfl (XS.iinc W277.here W277.hx rfl (hb hby dc5_34) rfl (l' := #[.val (.ref ta), .val (.int ((2 : Int32) + (1 : Int32)))]) rfl q9_))) ?_
  show Go _ _ _ _ _ _ _ _ _ (T276.setTop (mkF m 37 #[.val (.ref ta), .val (.int (3 : Int32))] [(.int (2 : Int32)), (.ref ta)]))
  refine W277.bald A_t ⟨by decide, by decide⟩ (v := (.int uu)) hu (hb hby dc5_37) ?_
  refine Go.by (fun t9_ q9_ => XS.sipush W277.here W277.hx rfl (hb hby dc5_38) (XS.iand W277.here W277.hx rfl (hb hby dc5_41) rfl q9_)) ?_
  show Go _ _ _ _ _ _ _ _ _ (T276.setTop (mkF m 42 #[.val (.ref ta), .val (.int (3 : Int32))] [(.int (uu &&& (255 : Int32)))]))
  refine W277.gets (host := "") (Or.inl (wd59 hw)) Via.refl (PSH.hi.ext W277.old) (hb hby dc5_42) ?_
  intro T278 W279
  refine Go.by (fun t9_ q9_ => XS.ishl W279.here W279.hx rfl (hb hby dc5_45) rfl (XS.aloadN W279.here W279.hx rfl (hb hby dc5_46) rfl rfl (XS.iloadN W279.here W279.hx rfl (hb hby dc5_47) rfl q9_))) ?_
  show Go _ _ _ _ _ _ _ _ _ (T278.setTop (mkF m 48 #[.val (.ref ta), .val (.int (3 : Int32))] [(.int (3 : Int32)), (.ref ta), (.int ((uu &&& (255 : Int32)) <<< ((0 : Int32) &&& 31)))]))
  refine W279.bald A_t ⟨by decide, by decide⟩ (v := (.int vv)) hv (hb hby dc5_48) ?_
  refine Go.by (fun t9_ q9_ => XS.sipush W279.here W279.hx rfl (hb hby dc5_49) (XS.iand W279.here W279.hx rfl (hb hby dc5_52) rfl q9_)) ?_
  show Go _ _ _ _ _ _ _ _ _ (T278.setTop (mkF m 53 #[.val (.ref ta), .val (.int (3 : Int32))] [(.int (vv &&& (255 : Int32))), (.int ((uu &&& (255 : Int32)) <<< ((0 : Int32) &&& 31)))]))
  refine W279.gets (host := "") (Or.inl (wd60 hw)) Via.refl (PSH.lo.ext W279.old) (hb hby dc5_53) ?_
  intro T280 W281
  refine Go.by (fun t9_ q9_ => XS.ishl W281.here W281.hx rfl (hb hby dc5_56) rfl (XS.ior W281.here W281.hx rfl (hb hby dc5_57) rfl (XS.i2c W281.here W281.hx rfl (hb hby dc5_58) rfl q9_))) ?_
  show Go _ _ _ _ _ _ _ _ _ (T280.setTop (mkF m 59 #[.val (.ref ta), .val (.int (3 : Int32))] [(.int ((((uu &&& (255 : Int32)) <<< ((0 : Int32) &&& 31)) ||| ((vv &&& (255 : Int32)) <<< ((8 : Int32) &&& 31))).toUInt32.toUInt16.toUInt32.toInt32))]))
  exact W281.retN (z' := cc) (by decide) (by decide) hret (by simp) (hb hby dc5_59) (by show nar .char (StrChars.pairCh uu vv) = cc; rw [hp]; exact nar_id r_c) ⟨rfl, rfl⟩
theorem c_put3_2 (l : Launch) (Z : State) (a0 : Array Value) (hw : HW Z a0) (hEL : EW Z a0 [("java/lang/String", 7)]) (h0 : Heap) (hE0 : Ext Z.heap h0) (ta : Addr) (k_ta : ClassId) (b0 b1 b2 b3 b4 b5 : Value) (cc : Int32) (PSH : PS3 Z) (A_t : Arv Z h0 ta k_ta .byte (6 : Int32) [b0, b1, b2, b3, b4, b5] (.int (0 : Int32))) (z_ta : Z.heap.size ≤ ta) :
    Con l Z [("java/lang/String", 7)] [ta] (⟨"java/lang/StringUTF16", "putChar", "([BII)V"⟩ : MethodName) jdk_52_method_4_code 3 none [] (⟨0, 0, 0, 0⟩ : Room) #[(.ref ta), (.int (2 : Int32)), (.int cc)] h0 (fun v h' => v = none ∧ Keep h0 h' [ta] ∧ Arv Z h' ta k_ta .byte (6 : Int32) [b0, b1, b2, b3, (.int (StrChars.lo8 cc)), (.int (StrChars.hi8 cc))] (.int (0 : Int32))) := by
  refine Con.mk (plainFor_of_name pn_1) hEL hE0 (allS A_t.lt all0) ?_
  intro p e s m below meth c T0 hby hml hret hnm W0
  rw [(show entryFrame m #[(.ref ta), (.int (2 : Int32)), (.int cc)] 3 = mkF m 0 #[.val (.ref ta), .val (.int (2 : Int32)), .val (.int cc)] [] from by first | (simp [entryFrame, mkF, argsToLocals, Value.category]; done) | rfl)]
  refine W0.gets (host := "") (Or.inl (wd58 hw)) Via.refl (PSH.ad.ext W0.old) (hb hby dc4_0) ?_
  intro T282 W283
  refine Go.by (fun t9_ q9_ => XS.ifYes W283.here W283.hx rfl (pc0 := 3) (pc' := 28) rfl (hb hby dc4_3) rfl ((if0 _ _).trans (feq (by decide)).2) (by decide) (by decide) q9_) ?_
  refine Go.by (fun t9_ q9_ => XS.iloadN W283.here W283.hx rfl (hb hby dc4_28) rfl (XS.iconst W283.here W283.hx rfl (hb hby dc4_29) (XS.ishl W283.here W283.hx rfl (hb hby dc4_30) rfl (XS.istoreN W283.here W283.hx rfl (hb hby dc4_31) rfl (l' := #[.val (.ref ta), .val (.int ((2 : Int32) <<< ((1 : Int32) &&& 31))), .val (.int cc)]) rfl q9_)))) ?_
  show Go _ _ _ _ _ _ _ _ _ (T282.setTop (mkF m 32 #[.val (.ref ta), .val (.int ((2 : Int32) <<< ((1 : Int32) &&& 31))), .val (.int cc)] []))
  rw [show ((2 : Int32) <<< ((1 : Int32) &&& 31)) = (4 : Int32) from by decide]
  refine Go.by (fun t9_ q9_ => XS.aloadN W283.here W283.hx rfl (hb hby dc4_32) rfl rfl (XS.iloadN W283.here W283.hx rfl (hb hby dc4_33) rfl (XS.iinc W283.here W283.hx rfl (hb hby dc4_34) rfl (l' := #[.val (.ref ta), .val (.int ((4 : Int32) + (1 : Int32))), .val (.int cc)]) rfl q9_))) ?_
  show Go _ _ _ _ _ _ _ _ _ (T282.setTop (mkF m 37 #[.val (.ref ta), .val (.int (5 : Int32)), .val (.int cc)] [(.int (4 : Int32)), (.ref ta)]))
  refine Go.by (fun t9_ q9_ => XS.iloadN W283.here W283.hx rfl (hb hby dc4_37) rfl q9_) ?_
  show Go _ _ _ _ _ _ _ _ _ (T282.setTop (mkF m 38 #[.val (.ref ta), .val (.int (5 : Int32)), .val (.int cc)] [(.int cc), (.int (4 : Int32)), (.ref ta)]))
  refine W283.gets (host := "") (Or.inl (wd59 hw)) Via.refl (PSH.hi.ext W283.old) (hb hby dc4_38) ?_
  intro T284 W285
  refine Go.by (fun t9_ q9_ => XS.ishr W285.here W285.hx rfl (hb hby dc4_41) rfl (XS.i2b W285.here W285.hx rfl (hb hby dc4_42) rfl q9_)) ?_
  show Go _ _ _ _ _ _ _ _ _ (T284.setTop (mkF m 43 #[.val (.ref ta), .val (.int (5 : Int32)), .val (.int cc)] [(.int ((cc >>> ((0 : Int32) &&& 31)).toInt8.toInt32)), (.int (4 : Int32)), (.ref ta)]))
  refine W285.bast A_t ⟨by decide, by decide⟩ (i := 4) rfl (by simp) (v' := (StrChars.lo8 cc)) (by rw [StrChars.shr0]; simp [nar, StrChars.lo8, lo8_lo8]) z_ta (List.mem_of_getElem? (i := 0) rfl) (hb hby dc4_43) ?_
  intro T286 h287 W288 Wr289 V290_ta'
  have V290_ta : Arv Z h287 ta k_ta .byte (6 : Int32) [b0, b1, b2, b3, (.int (StrChars.lo8 cc)), b5] (.int (0 : Int32)) := V290_ta'
  refine Go.by (fun t9_ q9_ => XS.aloadN W288.here W288.hx rfl (hb hby dc4_44) rfl rfl (XS.iloadN W288.here W288.hx rfl (hb hby dc4_45) rfl (XS.iloadN W288.here W288.hx rfl (hb hby dc4_46) rfl q9_))) ?_
  show Go _ _ _ _ _ _ _ _ _ (T286.setTop (mkF m 47 #[.val (.ref ta), .val (.int (5 : Int32)), .val (.int cc)] [(.int cc), (.int (5 : Int32)), (.ref ta)]))
  refine W288.gets (host := "") (Or.inl (wd60 hw)) Via.refl (PSH.lo.ext W288.old) (hb hby dc4_47) ?_
  intro T291 W292
  refine Go.by (fun t9_ q9_ => XS.ishr W292.here W292.hx rfl (hb hby dc4_50) rfl (XS.i2b W292.here W292.hx rfl (hb hby dc4_51) rfl q9_)) ?_
  show Go _ _ _ _ _ _ _ _ _ (T291.setTop (mkF m 52 #[.val (.ref ta), .val (.int (5 : Int32)), .val (.int cc)] [(.int ((cc >>> ((8 : Int32) &&& 31)).toInt8.toInt32)), (.int (5 : Int32)), (.ref ta)]))
  refine W292.bast V290_ta ⟨by decide, by decide⟩ (i := 5) rfl (by simp) (v' := (StrChars.hi8 cc)) (by simp [nar, StrChars.hi8, StrChars.lo8, lo8_lo8]) z_ta (List.mem_of_getElem? (i := 0) rfl) (hb hby dc4_52) ?_
  intro T293 h294 W295 Wr296 V297_ta'
  have V297_ta : Arv Z h294 ta k_ta .byte (6 : Int32) [b0, b1, b2, b3, (.int (StrChars.lo8 cc)), (.int (StrChars.hi8 cc))] (.int (0 : Int32)) := V297_ta'
  show Go _ _ _ _ _ _ _ _ _ (T293.setTop (mkF m 53 #[.val (.ref ta), .val (.int (5 : Int32)), .val (.int cc)] []))
  exact W295.retV (by decide) (by decide) hret (hb hby dc4_53) ⟨rfl, (((Keep.refl h0 [ta]).wr Wr289 (Or.inl (List.mem_of_getElem? (i := 0) rfl))).wr Wr296 (Or.inl (List.mem_of_getElem? (i := 0) rfl))), V297_ta⟩
theorem c_get3_2 (l : Launch) (Z : State) (a0 : Array Value) (hw : HW Z a0) (hEL : EW Z a0 [("java/lang/String", 7)]) (h0 : Heap) (hE0 : Ext Z.heap h0) (ta : Addr) (k_ta : ClassId) (vs : List Value) (uu vv cc : Int32) (PSH : PS3 Z) (A_t : Arv Z h0 ta k_ta .byte (6 : Int32) vs (.int (0 : Int32))) (hu : vs.getD 4 (.int (0 : Int32)) = .int uu) (hv : vs.getD 5 (.int (0 : Int32)) = .int vv) (hp : StrChars.pairCh uu vv = cc) (r_c : ¬ cc < 0 ∧ ¬ (65535 : Int32) < cc) :
    Con l Z [("java/lang/String", 7)] [] (⟨"java/lang/StringUTF16", "getChar", "([BI)C"⟩ : MethodName) jdk_52_method_5_code 2 (some .char) [] (⟨0, 0, 0, 0⟩ : Room) #[(.ref ta), (.int (2 : Int32))] h0 (fun v h' => v = (some (.int cc)) ∧ h' = h0) := by
  refine Con.mk (plainFor_of_name pn_1) hEL hE0 (fun x hx => by cases hx) ?_
  intro p e s m below meth c T0 hby hml hret hnm W0
  rw [(show entryFrame m #[(.ref ta), (.int (2 : Int32))] 2 = mkF m 0 #[.val (.ref ta), .val (.int (2 : Int32))] [] from by first | (simp [entryFrame, mkF, argsToLocals, Value.category]; done) | rfl)]
  refine W0.gets (host := "") (Or.inl (wd58 hw)) Via.refl (PSH.ad.ext W0.old) (hb hby dc5_0) ?_
  intro T298 W299
  refine Go.by (fun t9_ q9_ => XS.ifYes W299.here W299.hx rfl (pc0 := 3) (pc' := 28) rfl (hb hby dc5_3) rfl ((if0 _ _).trans (feq (by decide)).2) (by decide) (by decide) q9_) ?_
  refine Go.by (fun t9_ q9_ => XS.iloadN W299.here W299.hx rfl (hb hby dc5_28) rfl (XS.iconst W299.here W299.hx rfl (hb hby dc5_29) (XS.ishl W299.here W299.hx rfl (hb hby dc5_30) rfl (XS.istoreN W299.here W299.hx rfl (hb hby dc5_31) rfl (l' := #[.val (.ref ta), .val (.int ((2 : Int32) <<< ((1 : Int32) &&& 31)))]) rfl q9_)))) ?_
  show Go _ _ _ _ _ _ _ _ _ (T298.setTop (mkF m 32 #[.val (.ref ta), .val (.int ((2 : Int32) <<< ((1 : Int32) &&& 31)))] []))
  rw [show ((2 : Int32) <<< ((1 : Int32) &&& 31)) = (4 : Int32) from by decide]
  refine Go.by (fun t9_ q9_ => XS.aloadN W299.here W299.hx rfl (hb hby dc5_32) rfl rfl (XS.iloadN W299.here W299.hx rfl (hb hby dc5_33) rfl (XS.iinc W299.here W299.hx rfl (hb hby dc5_34) rfl (l' := #[.val (.ref ta), .val (.int ((4 : Int32) + (1 : Int32)))]) rfl q9_))) ?_
  show Go _ _ _ _ _ _ _ _ _ (T298.setTop (mkF m 37 #[.val (.ref ta), .val (.int (5 : Int32))] [(.int (4 : Int32)), (.ref ta)]))
  refine W299.bald A_t ⟨by decide, by decide⟩ (v := (.int uu)) hu (hb hby dc5_37) ?_
  refine Go.by (fun t9_ q9_ => XS.sipush W299.here W299.hx rfl (hb hby dc5_38) (XS.iand W299.here W299.hx rfl (hb hby dc5_41) rfl q9_)) ?_
  show Go _ _ _ _ _ _ _ _ _ (T298.setTop (mkF m 42 #[.val (.ref ta), .val (.int (5 : Int32))] [(.int (uu &&& (255 : Int32)))]))
  refine W299.gets (host := "") (Or.inl (wd59 hw)) Via.refl (PSH.hi.ext W299.old) (hb hby dc5_42) ?_
  intro T300 W301
  refine Go.by (fun t9_ q9_ => XS.ishl W301.here W301.hx rfl (hb hby dc5_45) rfl (XS.aloadN W301.here W301.hx rfl (hb hby dc5_46) rfl rfl (XS.iloadN W301.here W301.hx rfl (hb hby dc5_47) rfl q9_))) ?_
  show Go _ _ _ _ _ _ _ _ _ (T300.setTop (mkF m 48 #[.val (.ref ta), .val (.int (5 : Int32))] [(.int (5 : Int32)), (.ref ta), (.int ((uu &&& (255 : Int32)) <<< ((0 : Int32) &&& 31)))]))
  refine W301.bald A_t ⟨by decide, by decide⟩ (v := (.int vv)) hv (hb hby dc5_48) ?_
  refine Go.by (fun t9_ q9_ => XS.sipush W301.here W301.hx rfl (hb hby dc5_49) (XS.iand W301.here W301.hx rfl (hb hby dc5_52) rfl q9_)) ?_
  show Go _ _ _ _ _ _ _ _ _ (T300.setTop (mkF m 53 #[.val (.ref ta), .val (.int (5 : Int32))] [(.int (vv &&& (255 : Int32))), (.int ((uu &&& (255 : Int32)) <<< ((0 : Int32) &&& 31)))]))
  refine W301.gets (host := "") (Or.inl (wd60 hw)) Via.refl (PSH.lo.ext W301.old) (hb hby dc5_53) ?_
  intro T302 W303
  refine Go.by (fun t9_ q9_ => XS.ishl W303.here W303.hx rfl (hb hby dc5_56) rfl (XS.ior W303.here W303.hx rfl (hb hby dc5_57) rfl (XS.i2c W303.here W303.hx rfl (hb hby dc5_58) rfl q9_))) ?_
  show Go _ _ _ _ _ _ _ _ _ (T302.setTop (mkF m 59 #[.val (.ref ta), .val (.int (5 : Int32))] [(.int ((((uu &&& (255 : Int32)) <<< ((0 : Int32) &&& 31)) ||| ((vv &&& (255 : Int32)) <<< ((8 : Int32) &&& 31))).toUInt32.toUInt16.toUInt32.toInt32))]))
  exact W303.retN (z' := cc) (by decide) (by decide) hret (by simp) (hb hby dc5_59) (by show nar .char (StrChars.pairCh uu vv) = cc; rw [hp]; exact nar_id r_c) ⟨rfl, rfl⟩
theorem c_tb3 (l : Launch) (Z : State) (a0 : Array Value) (hw : HW Z a0) (hEL : EW Z a0 [("java/lang/String", 7)]) (h0 : Heap) (hE0 : Ext Z.heap h0) (ba : Addr) (kb : ClassId) (c0 c1 c2 : Int32) (PSH : PS3 Z) (A_b : Arv Z h0 ba kb .char (3 : Int32) [(.int c0), (.int c1), (.int c2)] (.int (0 : Int32))) :
    Con l Z [("java/lang/String", 7)] [] (⟨"java/lang/StringUTF16", "toBytes", "([CII)[B"⟩ : MethodName) jdk_52_method_14_code 5 (some (.array .byte)) [] (⟨2, 1, 6, 24⟩ : Room) #[(.ref ba), (.int (0 : Int32)), (.int (3 : Int32))] h0 (fun v h' => ∃ ta kt, v = some (.ref ta) ∧ Ext h0 h' ∧ Exa Z h' ta "[B" ∧ Arv Z h' ta kt .byte (6 : Int32) [(.int (StrChars.lo8 c0)), (.int (StrChars.hi8 c0)), (.int (StrChars.lo8 c1)), (.int (StrChars.hi8 c1)), (.int (StrChars.lo8 c2)), (.int (StrChars.hi8 c2))] (.int (0 : Int32))) := by
  refine Con.mk (plainFor_of_name pn_1) hEL hE0 (fun x hx => by cases hx) ?_
  intro p e s m below meth c T0 hby hml hret hnm W0
  rw [(show entryFrame m #[(.ref ba), (.int (0 : Int32)), (.int (3 : Int32))] 5 = mkF m 0 #[.val (.ref ba), .val (.int (0 : Int32)), .val (.int (3 : Int32)), .unset, .unset] [] from by first | (simp [entryFrame, mkF, argsToLocals, Value.category]; done) | rfl)]
  refine Go.by (fun t9_ q9_ => XS.iloadN W0.here W0.hx rfl (hb hby dc6_0) rfl q9_) ?_
  show Go _ _ _ _ _ _ _ _ _ (T0.setTop (mkF m 1 #[.val (.ref ba), .val (.int (0 : Int32)), .val (.int (3 : Int32)), .unset, .unset] [(.int (3 : Int32))]))
  refine W0.callS (y := (⟨"java/lang/StringUTF16", "newBytesFor", "(I)[B"⟩ : MethodName)) (wd48 hw) (wd49 hw) (wd37 hw) (wd50 hw) (by decide) (c_nbf3 l Z a0 hw hEL h0 hE0) all0 (by decide) (by decide) (k' := 1) (n' := 6) rfl rfl (by decide) (by decide) (by rw [hml]; rfl) (argsL := [(.int (3 : Int32))]) (rest := []) (lenOf pd_2 rfl) rfl rfl (Wt := 0) (Nat.le_of_eq rfl) (hb hby dc6_1) ?_
  intro v_ T304 h306 W305 hq_
  obtain ⟨ta, k_ta, rfl, X1, z_ta, g_ta, E_ta, A_ta⟩ := hq_
  have W307 := W305.safe0 (wd22 hw) A_ta (by decide)
  refine Go.by (fun t9_ q9_ => XS.astoreN W307.here W307.hx rfl (hb hby dc6_4) rfl rfl (l' := #[.val (.ref ba), .val (.int (0 : Int32)), .val (.int (3 : Int32)), .val (.ref ta), .unset]) rfl (XS.iconst W307.here W307.hx rfl (hb hby dc6_5) (XS.istore W307.here W307.hx rfl (hb hby dc6_6) rfl (l' := #[.val (.ref ba), .val (.int (0 : Int32)), .val (.int (3 : Int32)), .val (.ref ta), .val (.int (0 : Int32))]) rfl (XS.iload W307.here W307.hx rfl (hb hby dc6_8) rfl (XS.iloadN W307.here W307.hx rfl (hb hby dc6_10) rfl q9_))))) ?_
  refine Go.by (fun t9_ q9_ => XS.icmpNo W307.here W307.hx rfl (hb hby dc6_11) rfl (tlt (by decide)).2.1 q9_) ?_
  refine Go.by (fun t9_ q9_ => XS.aloadN W307.here W307.hx rfl (hb hby dc6_14) rfl rfl (XS.iload W307.here W307.hx rfl (hb hby dc6_15) rfl (XS.aloadN W307.here W307.hx rfl (hb hby dc6_17) rfl rfl (XS.iloadN W307.here W307.hx rfl (hb hby dc6_18) rfl q9_)))) ?_
  show Go _ _ _ _ _ _ _ _ _ (T304.setTop (mkF m 19 #[.val (.ref ba), .val (.int (0 : Int32)), .val (.int (3 : Int32)), .val (.ref ta), .val (.int (0 : Int32))] [(.int (0 : Int32)), (.ref ba), (.int (0 : Int32)), (.ref ta)]))
  refine W307.cald (A_b.ext X1) ⟨by decide, by decide⟩ (v := (.int c0)) rfl (hb hby dc6_19) ?_
  show Go _ _ _ _ _ _ _ _ _ (T304.setTop (mkF m 20 #[.val (.ref ba), .val (.int (0 : Int32)), .val (.int (3 : Int32)), .val (.ref ta), .val (.int (0 : Int32))] [(.int c0), (.int (0 : Int32)), (.ref ta)]))
  refine W307.callS (y := (⟨"java/lang/StringUTF16", "putChar", "([BII)V"⟩ : MethodName)) (wd55 hw) (wd56 hw) (wd37 hw) (wd57 hw) (by decide) (c_put3_0 l Z a0 hw hEL h306 W307.old ta k_ta (.int (0 : Int32)) (.int (0 : Int32)) (.int (0 : Int32)) (.int (0 : Int32)) (.int (0 : Int32)) (.int (0 : Int32)) c0 PSH A_ta z_ta) (allS (List.mem_of_getElem? (i := 0) rfl) all0) (by decide) (by decide) (k' := 1) (n' := 6) rfl rfl (by decide) (by decide) (by rw [hml]; rfl) (argsL := [(.ref ta), (.int (0 : Int32)), (.int c0)]) (rest := []) (lenOf pd_3 rfl) rfl rfl (Wt := 0) (Nat.le_of_eq rfl) (hb hby dc6_20) ?_
  intro v_ T308 h310 W309 hq_
  obtain ⟨rfl, K0, A0_ta⟩ := hq_
  refine Go.by (fun t9_ q9_ => XS.iinc W309.here W309.hx rfl (hb hby dc6_23) rfl (l' := #[.val (.ref ba), .val (.int ((0 : Int32) + (1 : Int32))), .val (.int (3 : Int32)), .val (.ref ta), .val (.int (0 : Int32))]) rfl q9_) ?_
  show Go _ _ _ _ _ _ _ _ _ (T308.setTop (mkF m 26 #[.val (.ref ba), .val (.int (1 : Int32)), .val (.int (3 : Int32)), .val (.ref ta), .val (.int (0 : Int32))] []))
  refine Go.by (fun t9_ q9_ => XS.iinc W309.here W309.hx rfl (hb hby dc6_26) rfl (l' := #[.val (.ref ba), .val (.int (1 : Int32)), .val (.int (3 : Int32)), .val (.ref ta), .val (.int ((0 : Int32) + (1 : Int32)))]) rfl q9_) ?_
  show Go _ _ _ _ _ _ _ _ _ (T308.setTop (mkF m 29 #[.val (.ref ba), .val (.int (1 : Int32)), .val (.int (3 : Int32)), .val (.ref ta), .val (.int (1 : Int32))] []))
  refine Go.by (fun t9_ q9_ => XS.goto W309.here W309.hx rfl (pc0 := 29) (pc' := 8) rfl (hb hby dc6_29) (by decide) (by decide) (XS.iload W309.here W309.hx rfl (hb hby dc6_8) rfl (XS.iloadN W309.here W309.hx rfl (hb hby dc6_10) rfl q9_))) ?_
  refine Go.by (fun t9_ q9_ => XS.icmpNo W309.here W309.hx rfl (hb hby dc6_11) rfl (tlt (by decide)).2.1 q9_) ?_
  refine Go.by (fun t9_ q9_ => XS.aloadN W309.here W309.hx rfl (hb hby dc6_14) rfl rfl (XS.iload W309.here W309.hx rfl (hb hby dc6_15) rfl (XS.aloadN W309.here W309.hx rfl (hb hby dc6_17) rfl rfl (XS.iloadN W309.here W309.hx rfl (hb hby dc6_18) rfl q9_)))) ?_
  have X311 : Ext h0 h310 := (Ext.keep' X1 K0 (allS (Nat.le_of_eq g_ta) all0))
  show Go _ _ _ _ _ _ _ _ _ (T308.setTop (mkF m 19 #[.val (.ref ba), .val (.int (1 : Int32)), .val (.int (3 : Int32)), .val (.ref ta), .val (.int (1 : Int32))] [(.int (1 : Int32)), (.ref ba), (.int (1 : Int32)), (.ref ta)]))
  refine W309.cald (A_b.ext X311) ⟨by decide, by decide⟩ (v := (.int c1)) rfl (hb hby dc6_19) ?_
  show Go _ _ _ _ _ _ _ _ _ (T308.setTop (mkF m 20 #[.val (.ref ba), .val (.int (1 : Int32)), .val (.int (3 : Int32)), .val (.ref ta), .val (.int (1 : Int32))] [(.int c1), (.int (1 : Int32)), (.ref ta)]))
  refine W309.callS (y := (⟨"java/lang/StringUTF16", "putChar", "([BII)V"⟩ : MethodName)) (wd55 hw) (wd56 hw) (wd37 hw) (wd57 hw) (by decide) (c_put3_1 l Z a0 hw hEL h310 W309.old ta k_ta (.int (StrChars.lo8 c0)) (.int (StrChars.hi8 c0)) (.int (0 : Int32)) (.int (0 : Int32)) (.int (0 : Int32)) (.int (0 : Int32)) c1 PSH A0_ta z_ta) (allS (List.mem_of_getElem? (i := 0) rfl) all0) (by decide) (by decide) (k' := 1) (n' := 6) rfl rfl (by decide) (by decide) (by rw [hml]; rfl) (argsL := [(.ref ta), (.int (1 : Int32)), (.int c1)]) (rest := []) (lenOf pd_3 rfl) rfl rfl (Wt := 0) (Nat.le_of_eq rfl) (hb hby dc6_20) ?_
  intro v_ T312 h314 W313 hq_
  obtain ⟨rfl, K1, A1_ta⟩ := hq_
  refine Go.by (fun t9_ q9_ => XS.iinc W313.here W313.hx rfl (hb hby dc6_23) rfl (l' := #[.val (.ref ba), .val (.int ((1 : Int32) + (1 : Int32))), .val (.int (3 : Int32)), .val (.ref ta), .val (.int (1 : Int32))]) rfl q9_) ?_
  show Go _ _ _ _ _ _ _ _ _ (T312.setTop (mkF m 26 #[.val (.ref ba), .val (.int (2 : Int32)), .val (.int (3 : Int32)), .val (.ref ta), .val (.int (1 : Int32))] []))
  refine Go.by (fun t9_ q9_ => XS.iinc W313.here W313.hx rfl (hb hby dc6_26) rfl (l' := #[.val (.ref ba), .val (.int (2 : Int32)), .val (.int (3 : Int32)), .val (.ref ta), .val (.int ((1 : Int32) + (1 : Int32)))]) rfl q9_) ?_
  show Go _ _ _ _ _ _ _ _ _ (T312.setTop (mkF m 29 #[.val (.ref ba), .val (.int (2 : Int32)), .val (.int (3 : Int32)), .val (.ref ta), .val (.int (2 : Int32))] []))
  refine Go.by (fun t9_ q9_ => XS.goto W313.here W313.hx rfl (pc0 := 29) (pc' := 8) rfl (hb hby dc6_29) (by decide) (by decide) (XS.iload W313.here W313.hx rfl (hb hby dc6_8) rfl (XS.iloadN W313.here W313.hx rfl (hb hby dc6_10) rfl q9_))) ?_
  refine Go.by (fun t9_ q9_ => XS.icmpNo W313.here W313.hx rfl (hb hby dc6_11) rfl (tlt (by decide)).2.1 q9_) ?_
  refine Go.by (fun t9_ q9_ => XS.aloadN W313.here W313.hx rfl (hb hby dc6_14) rfl rfl (XS.iload W313.here W313.hx rfl (hb hby dc6_15) rfl (XS.aloadN W313.here W313.hx rfl (hb hby dc6_17) rfl rfl (XS.iloadN W313.here W313.hx rfl (hb hby dc6_18) rfl q9_)))) ?_
  have X315 : Ext h0 h314 := (Ext.keep' X311 K1 (allS (Nat.le_of_eq g_ta) all0))
  show Go _ _ _ _ _ _ _ _ _ (T312.setTop (mkF m 19 #[.val (.ref ba), .val (.int (2 : Int32)), .val (.int (3 : Int32)), .val (.ref ta), .val (.int (2 : Int32))] [(.int (2 : Int32)), (.ref ba), (.int (2 : Int32)), (.ref ta)]))
  refine W313.cald (A_b.ext X315) ⟨by decide, by decide⟩ (v := (.int c2)) rfl (hb hby dc6_19) ?_
  show Go _ _ _ _ _ _ _ _ _ (T312.setTop (mkF m 20 #[.val (.ref ba), .val (.int (2 : Int32)), .val (.int (3 : Int32)), .val (.ref ta), .val (.int (2 : Int32))] [(.int c2), (.int (2 : Int32)), (.ref ta)]))
  refine W313.callS (y := (⟨"java/lang/StringUTF16", "putChar", "([BII)V"⟩ : MethodName)) (wd55 hw) (wd56 hw) (wd37 hw) (wd57 hw) (by decide) (c_put3_2 l Z a0 hw hEL h314 W313.old ta k_ta (.int (StrChars.lo8 c0)) (.int (StrChars.hi8 c0)) (.int (StrChars.lo8 c1)) (.int (StrChars.hi8 c1)) (.int (0 : Int32)) (.int (0 : Int32)) c2 PSH A1_ta z_ta) (allS (List.mem_of_getElem? (i := 0) rfl) all0) (by decide) (by decide) (k' := 1) (n' := 6) rfl rfl (by decide) (by decide) (by rw [hml]; rfl) (argsL := [(.ref ta), (.int (2 : Int32)), (.int c2)]) (rest := []) (lenOf pd_3 rfl) rfl rfl (Wt := 0) (Nat.le_of_eq rfl) (hb hby dc6_20) ?_
  intro v_ T316 h318 W317 hq_
  obtain ⟨rfl, K2, A2_ta⟩ := hq_
  refine Go.by (fun t9_ q9_ => XS.iinc W317.here W317.hx rfl (hb hby dc6_23) rfl (l' := #[.val (.ref ba), .val (.int ((2 : Int32) + (1 : Int32))), .val (.int (3 : Int32)), .val (.ref ta), .val (.int (2 : Int32))]) rfl q9_) ?_
  show Go _ _ _ _ _ _ _ _ _ (T316.setTop (mkF m 26 #[.val (.ref ba), .val (.int (3 : Int32)), .val (.int (3 : Int32)), .val (.ref ta), .val (.int (2 : Int32))] []))
  refine Go.by (fun t9_ q9_ => XS.iinc W317.here W317.hx rfl (hb hby dc6_26) rfl (l' := #[.val (.ref ba), .val (.int (3 : Int32)), .val (.int (3 : Int32)), .val (.ref ta), .val (.int ((2 : Int32) + (1 : Int32)))]) rfl q9_) ?_
  show Go _ _ _ _ _ _ _ _ _ (T316.setTop (mkF m 29 #[.val (.ref ba), .val (.int (3 : Int32)), .val (.int (3 : Int32)), .val (.ref ta), .val (.int (3 : Int32))] []))
  refine Go.by (fun t9_ q9_ => XS.goto W317.here W317.hx rfl (pc0 := 29) (pc' := 8) rfl (hb hby dc6_29) (by decide) (by decide) (XS.iload W317.here W317.hx rfl (hb hby dc6_8) rfl (XS.iloadN W317.here W317.hx rfl (hb hby dc6_10) rfl q9_))) ?_
  refine Go.by (fun t9_ q9_ => XS.icmpYes W317.here W317.hx rfl (pc0 := 11) (pc' := 32) rfl (hb hby dc6_11) rfl (flt (by decide)).2.1 (by decide) (by decide) q9_) ?_
  refine Go.by (fun t9_ q9_ => XS.aloadN W317.here W317.hx rfl (hb hby dc6_32) rfl rfl q9_) ?_
  have X319 : Ext h0 h318 := (Ext.keep' X315 K2 (allS (Nat.le_of_eq g_ta) all0))
  show Go _ _ _ _ _ _ _ _ _ (T316.setTop (mkF m 33 #[.val (.ref ba), .val (.int (3 : Int32)), .val (.int (3 : Int32)), .val (.ref ta), .val (.int (3 : Int32))] [(.ref ta)]))
  exact W317.retA (by decide) (by decide) hret rfl rfl (hb hby dc6_33) ⟨ta, k_ta, rfl, X319, (((E_ta.keep K0).keep K1).keep K2), A2_ta⟩
theorem c_cm5_3 (l : Launch) (Z : State) (a0 : Array Value) (hw : HW Z a0) (hEL : EW Z a0 [("java/lang/String", 7)]) (h0 : Heap) (hE0 : Ext Z.heap h0) (ba da : Addr) (kb k_da : ClassId) (c0 c1 c2 : Int32) (A_b : Arv Z h0 ba kb .char (3 : Int32) [(.int c0), (.int c1), (.int c2)] (.int (0 : Int32))) (A_d : Arv Z h0 da k_da .byte (3 : Int32) [(.int (0 : Int32)), (.int (0 : Int32)), (.int (0 : Int32))] (.int (0 : Int32))) (z_da : Z.heap.size ≤ da) (nbd : ba ≠ da) (hbig : (255 : Int32) < c0 ∨ (255 : Int32) < c1 ∨ (255 : Int32) < c2) :
    Con l Z [("java/lang/String", 7)] [da] (⟨"java/lang/StringUTF16", "compress", "([CI[BII)I"⟩ : MethodName) jdk_52_method_21_code 7 (some .int) [] (⟨0, 0, 0, 0⟩ : Room) #[(.ref ba), (.int (0 : Int32)), (.ref da), (.int (0 : Int32)), (.int (3 : Int32))] h0 (fun v h' => ∃ kk : Int32, v = some (.int kk) ∧ Keep h0 h' [da] ∧ (kk = (0 : Int32) ∧ (255 : Int32) < c0 ∨ kk = (1 : Int32) ∧ (255 : Int32) < c1 ∨ kk = (2 : Int32) ∧ (255 : Int32) < c2)) := by
  refine Con.mk (plainFor_of_name pn_1) hEL hE0 (allS A_d.lt all0) ?_
  intro p e s m below meth c T0 hby hml hret hnm W0
  rw [(show entryFrame m #[(.ref ba), (.int (0 : Int32)), (.ref da), (.int (0 : Int32)), (.int (3 : Int32))] 7 = mkF m 0 #[.val (.ref ba), .val (.int (0 : Int32)), .val (.ref da), .val (.int (0 : Int32)), .val (.int (3 : Int32)), .unset, .unset] [] from by first | (simp [entryFrame, mkF, argsToLocals, Value.category]; done) | rfl)]
  refine Go.by (fun t9_ q9_ => XS.iconst W0.here W0.hx rfl (hb hby dc7_0) (XS.istore W0.here W0.hx rfl (hb hby dc7_1) rfl (l' := #[.val (.ref ba), .val (.int (0 : Int32)), .val (.ref da), .val (.int (0 : Int32)), .val (.int (3 : Int32)), .val (.int (0 : Int32)), .unset]) rfl (XS.iload W0.here W0.hx rfl (hb hby dc7_3) rfl (XS.iload W0.here W0.hx rfl (hb hby dc7_5) rfl q9_)))) ?_
  refine Go.by (fun t9_ q9_ => XS.icmpNo W0.here W0.hx rfl (hb hby dc7_7) rfl (tlt (by decide)).2.1 q9_) ?_
  refine Go.by (fun t9_ q9_ => XS.aloadN W0.here W0.hx rfl (hb hby dc7_10) rfl rfl (XS.iloadN W0.here W0.hx rfl (hb hby dc7_11) rfl q9_)) ?_
  show Go _ _ _ _ _ _ _ _ _ (T0.setTop (mkF m 12 #[.val (.ref ba), .val (.int (0 : Int32)), .val (.ref da), .val (.int (0 : Int32)), .val (.int (3 : Int32)), .val (.int (0 : Int32)), .unset] [(.int (0 : Int32)), (.ref ba)]))
  refine W0.cald A_b ⟨by decide, by decide⟩ (v := (.int c0)) rfl (hb hby dc7_12) ?_
  refine Go.by (fun t9_ q9_ => XS.istore W0.here W0.hx rfl (hb hby dc7_13) rfl (l' := #[.val (.ref ba), .val (.int (0 : Int32)), .val (.ref da), .val (.int (0 : Int32)), .val (.int (3 : Int32)), .val (.int (0 : Int32)), .val (.int c0)]) rfl (XS.iload W0.here W0.hx rfl (hb hby dc7_15) rfl (XS.sipush W0.here W0.hx rfl (hb hby dc7_17) q9_))) ?_
  by_cases e0 : (255 : Int32) < c0
  · refine Go.by (fun t9_ q9_ => XS.icmpNo W0.here W0.hx rfl (hb hby dc7_20) rfl (tlt e0).2.2.2 q9_) ?_
    refine Go.by (fun t9_ q9_ => XS.iload W0.here W0.hx rfl (hb hby dc7_23) rfl q9_) ?_
    show Go _ _ _ _ _ _ _ _ _ (T0.setTop (mkF m 25 #[.val (.ref ba), .val (.int (0 : Int32)), .val (.ref da), .val (.int (0 : Int32)), .val (.int (3 : Int32)), .val (.int (0 : Int32)), .val (.int c0)] [(.int (0 : Int32))]))
    exact W0.retI (by decide) (by decide) hret (hb hby dc7_25) ⟨(0 : Int32), rfl, (Keep.refl h0 [da]), Or.inl ⟨rfl, e0⟩⟩
  · refine Go.by (fun t9_ q9_ => XS.icmpYes W0.here W0.hx rfl (pc0 := 20) (pc' := 26) rfl (hb hby dc7_20) rfl (flt e0).2.2.2 (by decide) (by decide) q9_) ?_
    refine Go.by (fun t9_ q9_ => XS.aloadN W0.here W0.hx rfl (hb hby dc7_26) rfl rfl (XS.iloadN W0.here W0.hx rfl (hb hby dc7_27) rfl (XS.iload W0.here W0.hx rfl (hb hby dc7_28) rfl (XS.i2b W0.here W0.hx rfl (hb hby dc7_30) rfl q9_)))) ?_
    show Go _ _ _ _ _ _ _ _ _ (T0.setTop (mkF m 31 #[.val (.ref ba), .val (.int (0 : Int32)), .val (.ref da), .val (.int (0 : Int32)), .val (.int (3 : Int32)), .val (.int (0 : Int32)), .val (.int c0)] [(.int (c0.toInt8.toInt32)), (.int (0 : Int32)), (.ref da)]))
    refine W0.bast A_d ⟨by decide, by decide⟩ (i := 0) rfl (by simp) (v' := (StrChars.lo8 c0)) (by simp [nar, StrChars.lo8, lo8_lo8]) z_da (List.mem_of_getElem? (i := 0) rfl) (hb hby dc7_31) ?_
    intro T320 h321 W322 Wr323 V324_da'
    have V324_da : Arv Z h321 da k_da .byte (3 : Int32) [(.int (StrChars.lo8 c0)), (.int (0 : Int32)), (.int (0 : Int32))] (.int (0 : Int32)) := V324_da'
    refine Go.by (fun t9_ q9_ => XS.iinc W322.here W322.hx rfl (hb hby dc7_32) rfl (l' := #[.val (.ref ba), .val (.int ((0 : Int32) + (1 : Int32))), .val (.ref da), .val (.int (0 : Int32)), .val (.int (3 : Int32)), .val (.int (0 : Int32)), .val (.int c0)]) rfl q9_) ?_
    show Go _ _ _ _ _ _ _ _ _ (T320.setTop (mkF m 35 #[.val (.ref ba), .val (.int (1 : Int32)), .val (.ref da), .val (.int (0 : Int32)), .val (.int (3 : Int32)), .val (.int (0 : Int32)), .val (.int c0)] []))
    refine Go.by (fun t9_ q9_ => XS.iinc W322.here W322.hx rfl (hb hby dc7_35) rfl (l' := #[.val (.ref ba), .val (.int (1 : Int32)), .val (.ref da), .val (.int ((0 : Int32) + (1 : Int32))), .val (.int (3 : Int32)), .val (.int (0 : Int32)), .val (.int c0)]) rfl q9_) ?_
    show Go _ _ _ _ _ _ _ _ _ (T320.setTop (mkF m 38 #[.val (.ref ba), .val (.int (1 : Int32)), .val (.ref da), .val (.int (1 : Int32)), .val (.int (3 : Int32)), .val (.int (0 : Int32)), .val (.int c0)] []))
    refine Go.by (fun t9_ q9_ => XS.iinc W322.here W322.hx rfl (hb hby dc7_38) rfl (l' := #[.val (.ref ba), .val (.int (1 : Int32)), .val (.ref da), .val (.int (1 : Int32)), .val (.int (3 : Int32)), .val (.int ((0 : Int32) + (1 : Int32))), .val (.int c0)]) rfl q9_) ?_
    show Go _ _ _ _ _ _ _ _ _ (T320.setTop (mkF m 41 #[.val (.ref ba), .val (.int (1 : Int32)), .val (.ref da), .val (.int (1 : Int32)), .val (.int (3 : Int32)), .val (.int (1 : Int32)), .val (.int c0)] []))
    refine Go.by (fun t9_ q9_ => XS.goto W322.here W322.hx rfl (pc0 := 41) (pc' := 3) rfl (hb hby dc7_41) (by decide) (by decide) (XS.iload W322.here W322.hx rfl (hb hby dc7_3) rfl (XS.iload W322.here W322.hx rfl (hb hby dc7_5) rfl q9_))) ?_
    refine Go.by (fun t9_ q9_ => XS.icmpNo W322.here W322.hx rfl (hb hby dc7_7) rfl (tlt (by decide)).2.1 q9_) ?_
    refine Go.by (fun t9_ q9_ => XS.aloadN W322.here W322.hx rfl (hb hby dc7_10) rfl rfl (XS.iloadN W322.here W322.hx rfl (hb hby dc7_11) rfl q9_)) ?_
    show Go _ _ _ _ _ _ _ _ _ (T320.setTop (mkF m 12 #[.val (.ref ba), .val (.int (1 : Int32)), .val (.ref da), .val (.int (1 : Int32)), .val (.int (3 : Int32)), .val (.int (1 : Int32)), .val (.int c0)] [(.int (1 : Int32)), (.ref ba)]))
    refine W322.cald (A_b.other Wr323 nbd) ⟨by decide, by decide⟩ (v := (.int c1)) rfl (hb hby dc7_12) ?_
    refine Go.by (fun t9_ q9_ => XS.istore W322.here W322.hx rfl (hb hby dc7_13) rfl (l' := #[.val (.ref ba), .val (.int (1 : Int32)), .val (.ref da), .val (.int (1 : Int32)), .val (.int (3 : Int32)), .val (.int (1 : Int32)), .val (.int c1)]) rfl (XS.iload W322.here W322.hx rfl (hb hby dc7_15) rfl (XS.sipush W322.here W322.hx rfl (hb hby dc7_17) q9_))) ?_
    by_cases e1 : (255 : Int32) < c1
    · refine Go.by (fun t9_ q9_ => XS.icmpNo W322.here W322.hx rfl (hb hby dc7_20) rfl (tlt e1).2.2.2 q9_) ?_
      refine Go.by (fun t9_ q9_ => XS.iload W322.here W322.hx rfl (hb hby dc7_23) rfl q9_) ?_
      show Go _ _ _ _ _ _ _ _ _ (T320.setTop (mkF m 25 #[.val (.ref ba), .val (.int (1 : Int32)), .val (.ref da), .val (.int (1 : Int32)), .val (.int (3 : Int32)), .val (.int (1 : Int32)), .val (.int c1)] [(.int (1 : Int32))]))
      exact W322.retI (by decide) (by decide) hret (hb hby dc7_25) ⟨(1 : Int32), rfl, ((Keep.refl h0 [da]).wr Wr323 (Or.inl (List.mem_of_getElem? (i := 0) rfl))), Or.inr (Or.inl ⟨rfl, e1⟩)⟩
    · refine Go.by (fun t9_ q9_ => XS.icmpYes W322.here W322.hx rfl (pc0 := 20) (pc' := 26) rfl (hb hby dc7_20) rfl (flt e1).2.2.2 (by decide) (by decide) q9_) ?_
      refine Go.by (fun t9_ q9_ => XS.aloadN W322.here W322.hx rfl (hb hby dc7_26) rfl rfl (XS.iloadN W322.here W322.hx rfl (hb hby dc7_27) rfl (XS.iload W322.here W322.hx rfl (hb hby dc7_28) rfl (XS.i2b W322.here W322.hx rfl (hb hby dc7_30) rfl q9_)))) ?_
      show Go _ _ _ _ _ _ _ _ _ (T320.setTop (mkF m 31 #[.val (.ref ba), .val (.int (1 : Int32)), .val (.ref da), .val (.int (1 : Int32)), .val (.int (3 : Int32)), .val (.int (1 : Int32)), .val (.int c1)] [(.int (c1.toInt8.toInt32)), (.int (1 : Int32)), (.ref da)]))
      refine W322.bast V324_da ⟨by decide, by decide⟩ (i := 1) rfl (by simp) (v' := (StrChars.lo8 c1)) (by simp [nar, StrChars.lo8, lo8_lo8]) z_da (List.mem_of_getElem? (i := 0) rfl) (hb hby dc7_31) ?_
      intro T325 h326 W327 Wr328 V329_da'
      have V329_da : Arv Z h326 da k_da .byte (3 : Int32) [(.int (StrChars.lo8 c0)), (.int (StrChars.lo8 c1)), (.int (0 : Int32))] (.int (0 : Int32)) := V329_da'
      refine Go.by (fun t9_ q9_ => XS.iinc W327.here W327.hx rfl (hb hby dc7_32) rfl (l' := #[.val (.ref ba), .val (.int ((1 : Int32) + (1 : Int32))), .val (.ref da), .val (.int (1 : Int32)), .val (.int (3 : Int32)), .val (.int (1 : Int32)), .val (.int c1)]) rfl q9_) ?_
      show Go _ _ _ _ _ _ _ _ _ (T325.setTop (mkF m 35 #[.val (.ref ba), .val (.int (2 : Int32)), .val (.ref da), .val (.int (1 : Int32)), .val (.int (3 : Int32)), .val (.int (1 : Int32)), .val (.int c1)] []))
      refine Go.by (fun t9_ q9_ => XS.iinc W327.here W327.hx rfl (hb hby dc7_35) rfl (l' := #[.val (.ref ba), .val (.int (2 : Int32)), .val (.ref da), .val (.int ((1 : Int32) + (1 : Int32))), .val (.int (3 : Int32)), .val (.int (1 : Int32)), .val (.int c1)]) rfl q9_) ?_
      show Go _ _ _ _ _ _ _ _ _ (T325.setTop (mkF m 38 #[.val (.ref ba), .val (.int (2 : Int32)), .val (.ref da), .val (.int (2 : Int32)), .val (.int (3 : Int32)), .val (.int (1 : Int32)), .val (.int c1)] []))
      refine Go.by (fun t9_ q9_ => XS.iinc W327.here W327.hx rfl (hb hby dc7_38) rfl (l' := #[.val (.ref ba), .val (.int (2 : Int32)), .val (.ref da), .val (.int (2 : Int32)), .val (.int (3 : Int32)), .val (.int ((1 : Int32) + (1 : Int32))), .val (.int c1)]) rfl q9_) ?_
      show Go _ _ _ _ _ _ _ _ _ (T325.setTop (mkF m 41 #[.val (.ref ba), .val (.int (2 : Int32)), .val (.ref da), .val (.int (2 : Int32)), .val (.int (3 : Int32)), .val (.int (2 : Int32)), .val (.int c1)] []))
      refine Go.by (fun t9_ q9_ => XS.goto W327.here W327.hx rfl (pc0 := 41) (pc' := 3) rfl (hb hby dc7_41) (by decide) (by decide) (XS.iload W327.here W327.hx rfl (hb hby dc7_3) rfl (XS.iload W327.here W327.hx rfl (hb hby dc7_5) rfl q9_))) ?_
      refine Go.by (fun t9_ q9_ => XS.icmpNo W327.here W327.hx rfl (hb hby dc7_7) rfl (tlt (by decide)).2.1 q9_) ?_
      refine Go.by (fun t9_ q9_ => XS.aloadN W327.here W327.hx rfl (hb hby dc7_10) rfl rfl (XS.iloadN W327.here W327.hx rfl (hb hby dc7_11) rfl q9_)) ?_
      show Go _ _ _ _ _ _ _ _ _ (T325.setTop (mkF m 12 #[.val (.ref ba), .val (.int (2 : Int32)), .val (.ref da), .val (.int (2 : Int32)), .val (.int (3 : Int32)), .val (.int (2 : Int32)), .val (.int c1)] [(.int (2 : Int32)), (.ref ba)]))
      refine W327.cald ((A_b.other Wr323 nbd).other Wr328 nbd) ⟨by decide, by decide⟩ (v := (.int c2)) rfl (hb hby dc7_12) ?_
      refine Go.by (fun t9_ q9_ => XS.istore W327.here W327.hx rfl (hb hby dc7_13) rfl (l' := #[.val (.ref ba), .val (.int (2 : Int32)), .val (.ref da), .val (.int (2 : Int32)), .val (.int (3 : Int32)), .val (.int (2 : Int32)), .val (.int c2)]) rfl (XS.iload W327.here W327.hx rfl (hb hby dc7_15) rfl (XS.sipush W327.here W327.hx rfl (hb hby dc7_17) q9_))) ?_
      by_cases e2 : (255 : Int32) < c2
      · refine Go.by (fun t9_ q9_ => XS.icmpNo W327.here W327.hx rfl (hb hby dc7_20) rfl (tlt e2).2.2.2 q9_) ?_
        refine Go.by (fun t9_ q9_ => XS.iload W327.here W327.hx rfl (hb hby dc7_23) rfl q9_) ?_
        show Go _ _ _ _ _ _ _ _ _ (T325.setTop (mkF m 25 #[.val (.ref ba), .val (.int (2 : Int32)), .val (.ref da), .val (.int (2 : Int32)), .val (.int (3 : Int32)), .val (.int (2 : Int32)), .val (.int c2)] [(.int (2 : Int32))]))
        exact W327.retI (by decide) (by decide) hret (hb hby dc7_25) ⟨(2 : Int32), rfl, (((Keep.refl h0 [da]).wr Wr323 (Or.inl (List.mem_of_getElem? (i := 0) rfl))).wr Wr328 (Or.inl (List.mem_of_getElem? (i := 0) rfl))), Or.inr (Or.inr (⟨rfl, e2⟩))⟩
      · refine Go.by (fun t9_ q9_ => XS.icmpYes W327.here W327.hx rfl (pc0 := 20) (pc' := 26) rfl (hb hby dc7_20) rfl (flt e2).2.2.2 (by decide) (by decide) q9_) ?_
        refine Go.by (fun t9_ q9_ => XS.aloadN W327.here W327.hx rfl (hb hby dc7_26) rfl rfl (XS.iloadN W327.here W327.hx rfl (hb hby dc7_27) rfl (XS.iload W327.here W327.hx rfl (hb hby dc7_28) rfl (XS.i2b W327.here W327.hx rfl (hb hby dc7_30) rfl q9_)))) ?_
        show Go _ _ _ _ _ _ _ _ _ (T325.setTop (mkF m 31 #[.val (.ref ba), .val (.int (2 : Int32)), .val (.ref da), .val (.int (2 : Int32)), .val (.int (3 : Int32)), .val (.int (2 : Int32)), .val (.int c2)] [(.int (c2.toInt8.toInt32)), (.int (2 : Int32)), (.ref da)]))
        refine W327.bast V329_da ⟨by decide, by decide⟩ (i := 2) rfl (by simp) (v' := (StrChars.lo8 c2)) (by simp [nar, StrChars.lo8, lo8_lo8]) z_da (List.mem_of_getElem? (i := 0) rfl) (hb hby dc7_31) ?_
        intro T330 h331 W332 Wr333 V334_da'
        have V334_da : Arv Z h331 da k_da .byte (3 : Int32) [(.int (StrChars.lo8 c0)), (.int (StrChars.lo8 c1)), (.int (StrChars.lo8 c2))] (.int (0 : Int32)) := V334_da'
        refine Go.by (fun t9_ q9_ => XS.iinc W332.here W332.hx rfl (hb hby dc7_32) rfl (l' := #[.val (.ref ba), .val (.int ((2 : Int32) + (1 : Int32))), .val (.ref da), .val (.int (2 : Int32)), .val (.int (3 : Int32)), .val (.int (2 : Int32)), .val (.int c2)]) rfl q9_) ?_
        show Go _ _ _ _ _ _ _ _ _ (T330.setTop (mkF m 35 #[.val (.ref ba), .val (.int (3 : Int32)), .val (.ref da), .val (.int (2 : Int32)), .val (.int (3 : Int32)), .val (.int (2 : Int32)), .val (.int c2)] []))
        refine Go.by (fun t9_ q9_ => XS.iinc W332.here W332.hx rfl (hb hby dc7_35) rfl (l' := #[.val (.ref ba), .val (.int (3 : Int32)), .val (.ref da), .val (.int ((2 : Int32) + (1 : Int32))), .val (.int (3 : Int32)), .val (.int (2 : Int32)), .val (.int c2)]) rfl q9_) ?_
        show Go _ _ _ _ _ _ _ _ _ (T330.setTop (mkF m 38 #[.val (.ref ba), .val (.int (3 : Int32)), .val (.ref da), .val (.int (3 : Int32)), .val (.int (3 : Int32)), .val (.int (2 : Int32)), .val (.int c2)] []))
        refine Go.by (fun t9_ q9_ => XS.iinc W332.here W332.hx rfl (hb hby dc7_38) rfl (l' := #[.val (.ref ba), .val (.int (3 : Int32)), .val (.ref da), .val (.int (3 : Int32)), .val (.int (3 : Int32)), .val (.int ((2 : Int32) + (1 : Int32))), .val (.int c2)]) rfl q9_) ?_
        show Go _ _ _ _ _ _ _ _ _ (T330.setTop (mkF m 41 #[.val (.ref ba), .val (.int (3 : Int32)), .val (.ref da), .val (.int (3 : Int32)), .val (.int (3 : Int32)), .val (.int (3 : Int32)), .val (.int c2)] []))
        rcases hbig with z0 | z1 | z2 <;> contradiction
theorem c_cm3_3 (l : Launch) (Z : State) (a0 : Array Value) (hw : HW Z a0) (hEL : EW Z a0 [("java/lang/String", 7)]) (h0 : Heap) (hE0 : Ext Z.heap h0) (ba : Addr) (kb : ClassId) (c0 c1 c2 : Int32) (PSH : PS3 Z) (A_b : Arv Z h0 ba kb .char (3 : Int32) [(.int c0), (.int c1), (.int c2)] (.int (0 : Int32))) (r0 : ¬ c0 < 0 ∧ ¬ (65535 : Int32) < c0) (r1 : ¬ c1 < 0 ∧ ¬ (65535 : Int32) < c1) (r2 : ¬ c2 < 0 ∧ ¬ (65535 : Int32) < c2) (hbig : (255 : Int32) < c0 ∨ (255 : Int32) < c1 ∨ (255 : Int32) < c2) :
    Con l Z [("java/lang/String", 7)] [] (⟨"java/lang/StringUTF16", "compress", "([CII)[B"⟩ : MethodName) jdk_52_method_16_code 6 (some (.array .byte)) [] (⟨3, 2, 9, 40⟩ : Room) #[(.ref ba), (.int (0 : Int32)), (.int (3 : Int32))] h0 (fun v h' => ∃ ta kt, v = some (.ref ta) ∧ Ext h0 h' ∧ Exa Z h' ta "[B" ∧ Arv Z h' ta kt .byte (6 : Int32) [(.int (StrChars.lo8 c0)), (.int (StrChars.hi8 c0)), (.int (StrChars.lo8 c1)), (.int (StrChars.hi8 c1)), (.int (StrChars.lo8 c2)), (.int (StrChars.hi8 c2))] (.int (0 : Int32))) := by
  refine Con.mk (plainFor_of_name pn_1) hEL hE0 (fun x hx => by cases hx) ?_
  intro p e s m below meth c T0 hby hml hret hnm W0
  rw [(show entryFrame m #[(.ref ba), (.int (0 : Int32)), (.int (3 : Int32))] 6 = mkF m 0 #[.val (.ref ba), .val (.int (0 : Int32)), .val (.int (3 : Int32)), .unset, .unset, .unset] [] from by first | (simp [entryFrame, mkF, argsToLocals, Value.category]; done) | rfl)]
  refine Go.by (fun t9_ q9_ => XS.iloadN W0.here W0.hx rfl (hb hby dc8_0) rfl q9_) ?_
  show Go _ _ _ _ _ _ _ _ _ (T0.setTop (mkF m 1 #[.val (.ref ba), .val (.int (0 : Int32)), .val (.int (3 : Int32)), .unset, .unset, .unset] [(.int (3 : Int32))]))
  refine W0.newp (aty := .byte) (wd23 hw) (hb hby dc8_1) (by decide) (cap := 3) (by decide) (by decide) (k' := 1) (n' := 3) rfl rfl (by decide) (by decide) (ad := "[B") rfl ?_
  intro T335 h336 da k_da W337 E338 g_da z_da A_da V_da
  have V1_da : Arv Z h336 da k_da .byte (3 : Int32) [(.int (0 : Int32)), (.int (0 : Int32)), (.int (0 : Int32))] (.int (0 : Int32)) := V_da.pad (pad_rep [] (.int (0 : Int32)) 3)
  refine Go.by (fun t9_ q9_ => XS.astoreN W337.here W337.hx rfl (hb hby dc8_3) rfl rfl (l' := #[.val (.ref ba), .val (.int (0 : Int32)), .val (.int (3 : Int32)), .val (.ref da), .unset, .unset]) rfl (XS.aloadN W337.here W337.hx rfl (hb hby dc8_4) rfl rfl (XS.iloadN W337.here W337.hx rfl (hb hby dc8_5) rfl (XS.aloadN W337.here W337.hx rfl (hb hby dc8_6) rfl rfl (XS.iconst W337.here W337.hx rfl (hb hby dc8_7) (XS.iloadN W337.here W337.hx rfl (hb hby dc8_8) rfl q9_)))))) ?_
  show Go _ _ _ _ _ _ _ _ _ (T335.setTop (mkF m 9 #[.val (.ref ba), .val (.int (0 : Int32)), .val (.int (3 : Int32)), .val (.ref da), .unset, .unset] [(.int (3 : Int32)), (.int (0 : Int32)), (.ref da), (.int (0 : Int32)), (.ref ba)]))
  refine W337.callS (y := (⟨"java/lang/StringUTF16", "compress", "([CI[BII)I"⟩ : MethodName)) (wd39 hw) (wd40 hw) (wd37 hw) (wd41 hw) (by decide) (c_cm5_3 l Z a0 hw hEL h336 W337.old ba da kb k_da c0 c1 c2 (A_b.ext E338) V1_da z_da (Nat.ne_of_lt (Nat.lt_of_lt_of_le A_b.lt (Nat.le_of_eq g_da))) hbig) (allS (List.mem_of_getElem? (i := 0) rfl) all0) (by decide) (by decide) (k' := 1) (n' := 3) rfl rfl (by decide) (by decide) (by rw [hml]; rfl) (argsL := [(.ref ba), (.int (0 : Int32)), (.ref da), (.int (0 : Int32)), (.int (3 : Int32))]) (rest := []) (lenOf pd_4 rfl) rfl rfl (Wt := 0) (Nat.le_of_eq rfl) (hb hby dc8_9) ?_
  intro v_ T339 h341 W340 hq_
  obtain ⟨kk, rfl, K1, hk⟩ := hq_
  refine Go.by (fun t9_ q9_ => XS.istore W340.here W340.hx rfl (hb hby dc8_12) rfl (l' := #[.val (.ref ba), .val (.int (0 : Int32)), .val (.int (3 : Int32)), .val (.ref da), .val (.int kk), .unset]) rfl (XS.iload W340.here W340.hx rfl (hb hby dc8_14) rfl (XS.iloadN W340.here W340.hx rfl (hb hby dc8_16) rfl q9_))) ?_
  rcases hk with ⟨rfl, e0⟩ | ⟨rfl, e1⟩ | ⟨rfl, e2⟩
  · refine Go.by (fun t9_ q9_ => XS.icmpNo W340.here W340.hx rfl (hb hby dc8_17) rfl (feq (by decide)).1 q9_) ?_
    refine Go.by (fun t9_ q9_ => XS.aloadN W340.here W340.hx rfl (hb hby dc8_20) rfl rfl (XS.iloadN W340.here W340.hx rfl (hb hby dc8_21) rfl (XS.iloadN W340.here W340.hx rfl (hb hby dc8_22) rfl q9_))) ?_
    have X342 : Ext h0 h341 := (Ext.keep' E338 K1 (allS (Nat.le_of_eq g_da) all0))
    show Go _ _ _ _ _ _ _ _ _ (T339.setTop (mkF m 23 #[.val (.ref ba), .val (.int (0 : Int32)), .val (.int (3 : Int32)), .val (.ref da), .val (.int (0 : Int32)), .unset] [(.int (3 : Int32)), (.int (0 : Int32)), (.ref ba)]))
    refine W340.callS (y := (⟨"java/lang/StringUTF16", "toBytes", "([CII)[B"⟩ : MethodName)) (wd45 hw) (wd46 hw) (wd37 hw) (wd47 hw) (by decide) (c_tb3 l Z a0 hw hEL h341 W340.old ba kb c0 c1 c2 PSH (A_b.ext X342)) all0 (by decide) (by decide) (k' := 2) (n' := 9) rfl rfl (by decide) (by decide) (by rw [hml]; rfl) (argsL := [(.ref ba), (.int (0 : Int32)), (.int (3 : Int32))]) (rest := []) (lenOf pd_5 rfl) rfl rfl (Wt := 0) (Nat.le_of_eq rfl) (hb hby dc8_23) ?_
    intro v_ T343 h345 W344 hq_
    obtain ⟨ta, k_ta, rfl, X2, E_ta, A_ta⟩ := hq_
    refine Go.by (fun t9_ q9_ => XS.astore W344.here W344.hx rfl (hb hby dc8_26) rfl rfl (l' := #[.val (.ref ba), .val (.int (0 : Int32)), .val (.int (3 : Int32)), .val (.ref da), .val (.int (0 : Int32)), .val (.ref ta)]) rfl (XS.aload W344.here W344.hx rfl (hb hby dc8_28) rfl rfl (XS.iload W344.here W344.hx rfl (hb hby dc8_30) rfl q9_))) ?_
    show Go _ _ _ _ _ _ _ _ _ (T343.setTop (mkF m 32 #[.val (.ref ba), .val (.int (0 : Int32)), .val (.int (3 : Int32)), .val (.ref da), .val (.int (0 : Int32)), .val (.ref ta)] [(.int (0 : Int32)), (.ref ta)]))
    refine W344.callSp (y := (⟨"java/lang/StringUTF16", "getChar", "([BI)C"⟩ : MethodName)) (wd61 hw) (wd62 hw) (wd37 hw) (wd63 hw) (by decide) (c_get3_0 l Z a0 hw hEL h345 W344.old ta k_ta _ _ _ c0 PSH A_ta rfl rfl (StrChars.pair_says r0.1 r0.2) r0) all0 (by decide) (by decide) (k' := 2) (n' := 9) rfl rfl (by decide) (by decide) (by rw [hml]; rfl) (argsL := [(.ref ta), (.int (0 : Int32))]) (rest := []) (lenOf pd_6 rfl) rfl rfl (Wt := 0) (Nat.le_of_eq rfl) (hb hby dc8_32) ?_
    intro T346 W347
    refine Go.by (fun t9_ q9_ => XS.sipush W347.here W347.hx rfl (hb hby dc8_35) q9_) ?_
    refine Go.by (fun t9_ q9_ => XS.icmpYes W347.here W347.hx rfl (pc0 := 38) (pc' := 54) rfl (hb hby dc8_38) rfl (tlt e0).2.2.1 (by decide) (by decide) q9_) ?_
    refine Go.by (fun t9_ q9_ => XS.aload W347.here W347.hx rfl (hb hby dc8_54) rfl rfl q9_) ?_
    have X348 : Ext h0 h345 := (Ext.trans' X342 X2)
    show Go _ _ _ _ _ _ _ _ _ (T346.setTop (mkF m 56 #[.val (.ref ba), .val (.int (0 : Int32)), .val (.int (3 : Int32)), .val (.ref da), .val (.int (0 : Int32)), .val (.ref ta)] [(.ref ta)]))
    exact W347.retA (by decide) (by decide) hret rfl rfl (hb hby dc8_56) ⟨ta, k_ta, rfl, X348, E_ta, A_ta⟩
  · refine Go.by (fun t9_ q9_ => XS.icmpNo W340.here W340.hx rfl (hb hby dc8_17) rfl (feq (by decide)).1 q9_) ?_
    refine Go.by (fun t9_ q9_ => XS.aloadN W340.here W340.hx rfl (hb hby dc8_20) rfl rfl (XS.iloadN W340.here W340.hx rfl (hb hby dc8_21) rfl (XS.iloadN W340.here W340.hx rfl (hb hby dc8_22) rfl q9_))) ?_
    have X349 : Ext h0 h341 := (Ext.keep' E338 K1 (allS (Nat.le_of_eq g_da) all0))
    show Go _ _ _ _ _ _ _ _ _ (T339.setTop (mkF m 23 #[.val (.ref ba), .val (.int (0 : Int32)), .val (.int (3 : Int32)), .val (.ref da), .val (.int (1 : Int32)), .unset] [(.int (3 : Int32)), (.int (0 : Int32)), (.ref ba)]))
    refine W340.callS (y := (⟨"java/lang/StringUTF16", "toBytes", "([CII)[B"⟩ : MethodName)) (wd45 hw) (wd46 hw) (wd37 hw) (wd47 hw) (by decide) (c_tb3 l Z a0 hw hEL h341 W340.old ba kb c0 c1 c2 PSH (A_b.ext X349)) all0 (by decide) (by decide) (k' := 2) (n' := 9) rfl rfl (by decide) (by decide) (by rw [hml]; rfl) (argsL := [(.ref ba), (.int (0 : Int32)), (.int (3 : Int32))]) (rest := []) (lenOf pd_5 rfl) rfl rfl (Wt := 0) (Nat.le_of_eq rfl) (hb hby dc8_23) ?_
    intro v_ T350 h352 W351 hq_
    obtain ⟨ta, k_ta, rfl, X2, E_ta, A_ta⟩ := hq_
    refine Go.by (fun t9_ q9_ => XS.astore W351.here W351.hx rfl (hb hby dc8_26) rfl rfl (l' := #[.val (.ref ba), .val (.int (0 : Int32)), .val (.int (3 : Int32)), .val (.ref da), .val (.int (1 : Int32)), .val (.ref ta)]) rfl (XS.aload W351.here W351.hx rfl (hb hby dc8_28) rfl rfl (XS.iload W351.here W351.hx rfl (hb hby dc8_30) rfl q9_))) ?_
    show Go _ _ _ _ _ _ _ _ _ (T350.setTop (mkF m 32 #[.val (.ref ba), .val (.int (0 : Int32)), .val (.int (3 : Int32)), .val (.ref da), .val (.int (1 : Int32)), .val (.ref ta)] [(.int (1 : Int32)), (.ref ta)]))
    refine W351.callSp (y := (⟨"java/lang/StringUTF16", "getChar", "([BI)C"⟩ : MethodName)) (wd61 hw) (wd62 hw) (wd37 hw) (wd63 hw) (by decide) (c_get3_1 l Z a0 hw hEL h352 W351.old ta k_ta _ _ _ c1 PSH A_ta rfl rfl (StrChars.pair_says r1.1 r1.2) r1) all0 (by decide) (by decide) (k' := 2) (n' := 9) rfl rfl (by decide) (by decide) (by rw [hml]; rfl) (argsL := [(.ref ta), (.int (1 : Int32))]) (rest := []) (lenOf pd_6 rfl) rfl rfl (Wt := 0) (Nat.le_of_eq rfl) (hb hby dc8_32) ?_
    intro T353 W354
    refine Go.by (fun t9_ q9_ => XS.sipush W354.here W354.hx rfl (hb hby dc8_35) q9_) ?_
    refine Go.by (fun t9_ q9_ => XS.icmpYes W354.here W354.hx rfl (pc0 := 38) (pc' := 54) rfl (hb hby dc8_38) rfl (tlt e1).2.2.1 (by decide) (by decide) q9_) ?_
    refine Go.by (fun t9_ q9_ => XS.aload W354.here W354.hx rfl (hb hby dc8_54) rfl rfl q9_) ?_
    have X355 : Ext h0 h352 := (Ext.trans' X349 X2)
    show Go _ _ _ _ _ _ _ _ _ (T353.setTop (mkF m 56 #[.val (.ref ba), .val (.int (0 : Int32)), .val (.int (3 : Int32)), .val (.ref da), .val (.int (1 : Int32)), .val (.ref ta)] [(.ref ta)]))
    exact W354.retA (by decide) (by decide) hret rfl rfl (hb hby dc8_56) ⟨ta, k_ta, rfl, X355, E_ta, A_ta⟩
  · refine Go.by (fun t9_ q9_ => XS.icmpNo W340.here W340.hx rfl (hb hby dc8_17) rfl (feq (by decide)).1 q9_) ?_
    refine Go.by (fun t9_ q9_ => XS.aloadN W340.here W340.hx rfl (hb hby dc8_20) rfl rfl (XS.iloadN W340.here W340.hx rfl (hb hby dc8_21) rfl (XS.iloadN W340.here W340.hx rfl (hb hby dc8_22) rfl q9_))) ?_
    have X356 : Ext h0 h341 := (Ext.keep' E338 K1 (allS (Nat.le_of_eq g_da) all0))
    show Go _ _ _ _ _ _ _ _ _ (T339.setTop (mkF m 23 #[.val (.ref ba), .val (.int (0 : Int32)), .val (.int (3 : Int32)), .val (.ref da), .val (.int (2 : Int32)), .unset] [(.int (3 : Int32)), (.int (0 : Int32)), (.ref ba)]))
    refine W340.callS (y := (⟨"java/lang/StringUTF16", "toBytes", "([CII)[B"⟩ : MethodName)) (wd45 hw) (wd46 hw) (wd37 hw) (wd47 hw) (by decide) (c_tb3 l Z a0 hw hEL h341 W340.old ba kb c0 c1 c2 PSH (A_b.ext X356)) all0 (by decide) (by decide) (k' := 2) (n' := 9) rfl rfl (by decide) (by decide) (by rw [hml]; rfl) (argsL := [(.ref ba), (.int (0 : Int32)), (.int (3 : Int32))]) (rest := []) (lenOf pd_5 rfl) rfl rfl (Wt := 0) (Nat.le_of_eq rfl) (hb hby dc8_23) ?_
    intro v_ T357 h359 W358 hq_
    obtain ⟨ta, k_ta, rfl, X2, E_ta, A_ta⟩ := hq_
    refine Go.by (fun t9_ q9_ => XS.astore W358.here W358.hx rfl (hb hby dc8_26) rfl rfl (l' := #[.val (.ref ba), .val (.int (0 : Int32)), .val (.int (3 : Int32)), .val (.ref da), .val (.int (2 : Int32)), .val (.ref ta)]) rfl (XS.aload W358.here W358.hx rfl (hb hby dc8_28) rfl rfl (XS.iload W358.here W358.hx rfl (hb hby dc8_30) rfl q9_))) ?_
    show Go _ _ _ _ _ _ _ _ _ (T357.setTop (mkF m 32 #[.val (.ref ba), .val (.int (0 : Int32)), .val (.int (3 : Int32)), .val (.ref da), .val (.int (2 : Int32)), .val (.ref ta)] [(.int (2 : Int32)), (.ref ta)]))
    refine W358.callSp (y := (⟨"java/lang/StringUTF16", "getChar", "([BI)C"⟩ : MethodName)) (wd61 hw) (wd62 hw) (wd37 hw) (wd63 hw) (by decide) (c_get3_2 l Z a0 hw hEL h359 W358.old ta k_ta _ _ _ c2 PSH A_ta rfl rfl (StrChars.pair_says r2.1 r2.2) r2) all0 (by decide) (by decide) (k' := 2) (n' := 9) rfl rfl (by decide) (by decide) (by rw [hml]; rfl) (argsL := [(.ref ta), (.int (2 : Int32))]) (rest := []) (lenOf pd_6 rfl) rfl rfl (Wt := 0) (Nat.le_of_eq rfl) (hb hby dc8_32) ?_
    intro T360 W361
    refine Go.by (fun t9_ q9_ => XS.sipush W361.here W361.hx rfl (hb hby dc8_35) q9_) ?_
    refine Go.by (fun t9_ q9_ => XS.icmpYes W361.here W361.hx rfl (pc0 := 38) (pc' := 54) rfl (hb hby dc8_38) rfl (tlt e2).2.2.1 (by decide) (by decide) q9_) ?_
    refine Go.by (fun t9_ q9_ => XS.aload W361.here W361.hx rfl (hb hby dc8_54) rfl rfl q9_) ?_
    have X362 : Ext h0 h359 := (Ext.trans' X356 X2)
    show Go _ _ _ _ _ _ _ _ _ (T360.setTop (mkF m 56 #[.val (.ref ba), .val (.int (0 : Int32)), .val (.int (3 : Int32)), .val (.ref da), .val (.int (2 : Int32)), .val (.ref ta)] [(.ref ta)]))
    exact W361.retA (by decide) (by decide) hret rfl rfl (hb hby dc8_56) ⟨ta, k_ta, rfl, X362, E_ta, A_ta⟩
theorem c_cod3 (l : Launch) (Z : State) (a0 : Array Value) (hw : HW Z a0) (hEL : EW Z a0 [("java/lang/String", 7)]) (h0 : Heap) (hE0 : Ext Z.heap h0) (ta : Addr) (k_ta : ClassId) (vs : List Value) (A_t : Arv Z h0 ta k_ta .byte (6 : Int32) vs (.int (0 : Int32))) :
    Con l Z [("java/lang/String", 7)] [] (⟨"java/lang/StringUTF16", "coderFromArrayLen", "([BI)B"⟩ : MethodName) jdk_52_method_15_code 2 (some .byte) [] (⟨0, 0, 0, 0⟩ : Room) #[(.ref ta), (.int (3 : Int32))] h0 (fun v h' => v = (some (.int 1)) ∧ h' = h0) := by
  refine Con.mk (plainFor_of_name pn_1) hEL hE0 (fun x hx => by cases hx) ?_
  intro p e s m below meth c T0 hby hml hret hnm W0
  rw [(show entryFrame m #[(.ref ta), (.int (3 : Int32))] 2 = mkF m 0 #[.val (.ref ta), .val (.int (3 : Int32))] [] from by first | (simp [entryFrame, mkF, argsToLocals, Value.category]; done) | rfl)]
  refine Go.by (fun t9_ q9_ => XS.iloadN W0.here W0.hx rfl (hb hby dc9_0) rfl (XS.aloadN W0.here W0.hx rfl (hb hby dc9_1) rfl rfl q9_)) ?_
  show Go _ _ _ _ _ _ _ _ _ (T0.setTop (mkF m 2 #[.val (.ref ta), .val (.int (3 : Int32))] [(.ref ta), (.int (3 : Int32))]))
  refine W0.alen A_t (hb hby dc9_2) ?_
  refine Go.by (fun t9_ q9_ => XS.isub W0.here W0.hx rfl (hb hby dc9_3) rfl (XS.bipush W0.here W0.hx rfl (hb hby dc9_4) (XS.iushr W0.here W0.hx rfl (hb hby dc9_6) rfl (XS.i2b W0.here W0.hx rfl (hb hby dc9_7) rfl q9_)))) ?_
  show Go _ _ _ _ _ _ _ _ _ (T0.setTop (mkF m 8 #[.val (.ref ta), .val (.int (3 : Int32))] [(.int (((((3 : Int32) - (6 : Int32)).toUInt32 >>> ((31 : Int32) &&& 31).toUInt32).toInt32).toInt8.toInt32))]))
  exact W0.retN (z' := (1 : Int32)) (by decide) (by decide) hret (by simp) (hb hby dc9_8) (by decide) ⟨rfl, rfl⟩
theorem c_s4_3 (l : Launch) (Z : State) (a0 : Array Value) (hw : HW Z a0) (hEL : EW Z a0 [("java/lang/String", 7)]) (h0 : Heap) (hE0 : Ext Z.heap h0) (x ba : Addr) (kb : ClassId) (c0 c1 c2 G1 : Int32) (E_x : Exa Z h0 x "java/lang/String") (FV : Fld Z h0 x "java/lang/String" "value" "[B" .null) (FC : Fld Z h0 x "java/lang/String" "coder" "B" (.int 0)) (z_x : Z.heap.size ≤ x) (PSH : PS3 Z) (SG1 : Sta Z Z.heap "java/lang/String" "COMPACT_STRINGS" "Z" (.int G1)) (hG : ¬ G1 = 0) (A_b : Arv Z h0 ba kb .char (3 : Int32) [(.int c0), (.int c1), (.int c2)] (.int (0 : Int32))) (r0 : ¬ c0 < 0 ∧ ¬ (65535 : Int32) < c0) (r1 : ¬ c1 < 0 ∧ ¬ (65535 : Int32) < c1) (r2 : ¬ c2 < 0 ∧ ¬ (65535 : Int32) < c2) (hbig : (255 : Int32) < c0 ∨ (255 : Int32) < c1 ∨ (255 : Int32) < c2) :
    Con l Z [("java/lang/String", 7)] [x] (⟨"java/lang/String", "<init>", "([CIILjava/lang/Void;)V"⟩ : MethodName) jdk_42_method_149_code 6 none [] (⟨4, 2, 9, 57⟩ : Room) #[(.ref x), (.ref ba), (.int (0 : Int32)), (.int (3 : Int32)), .null] h0 (fun v h' => v = none ∧ Keep h0 h' [x] ∧ ∃ ta kt, Exa Z h' x "java/lang/String" ∧ Fld Z h' x "java/lang/String" "value" "[B" (.ref ta) ∧ Fld Z h' x "java/lang/String" "coder" "B" (.int 1) ∧ Arv Z h' ta kt .byte (6 : Int32) [(.int (StrChars.lo8 c0)), (.int (StrChars.hi8 c0)), (.int (StrChars.lo8 c1)), (.int (StrChars.hi8 c1)), (.int (StrChars.lo8 c2)), (.int (StrChars.hi8 c2))] (.int (0 : Int32))) := by
  refine Con.mk (plainFor_of_name pn_0) hEL hE0 (allS E_x.lt all0) ?_
  intro p e s m below meth c T0 hby hml hret hnm W0
  rw [(show entryFrame m #[(.ref x), (.ref ba), (.int (0 : Int32)), (.int (3 : Int32)), .null] 6 = mkF m 0 #[.val (.ref x), .val (.ref ba), .val (.int (0 : Int32)), .val (.int (3 : Int32)), .val .null, .unset] [] from by first | (simp [entryFrame, mkF, argsToLocals, Value.category]; done) | rfl)]
  refine Go.by (fun t9_ q9_ => XS.aloadN W0.here W0.hx rfl (hb hby dc0_0) rfl rfl q9_) ?_
  show Go _ _ _ _ _ _ _ _ _ (T0.setTop (mkF m 1 #[.val (.ref x), .val (.ref ba), .val (.int (0 : Int32)), .val (.int (3 : Int32)), .val .null, .unset] [(.ref x)]))
  refine W0.initO (wd19 hw) (wd20 hw) (wd21 hw) (by rw [hml]; rfl) (hb hby dc0_1) (by decide) (Wt := 0) (Nat.le_of_eq rfl) (by decide) ?_
  intro T363 W364
  refine Go.by (fun t9_ q9_ => XS.iloadN W364.here W364.hx rfl (hb hby dc0_4) rfl q9_) ?_
  refine Go.by (fun t9_ q9_ => XS.ifYes W364.here W364.hx rfl (pc0 := 5) (pc' := 27) rfl (hb hby dc0_5) rfl ((if0 _ _).trans (feq (by decide)).2) (by decide) (by decide) q9_) ?_
  show Go _ _ _ _ _ _ _ _ _ (T363.setTop (mkF m 27 #[.val (.ref x), .val (.ref ba), .val (.int (0 : Int32)), .val (.int (3 : Int32)), .val .null, .unset] []))
  refine W364.gets (host := "") (Or.inl (wd34 hw)) Via.refl (SG1.ext W364.old) (hb hby dc0_27) ?_
  intro T365 W366
  refine Go.by (fun t9_ q9_ => XS.ifNo W366.here W366.hx rfl (hb hby dc0_30) rfl ((if0 _ _).trans (feq hG).1) q9_) ?_
  refine Go.by (fun t9_ q9_ => XS.aloadN W366.here W366.hx rfl (hb hby dc0_33) rfl rfl (XS.iloadN W366.here W366.hx rfl (hb hby dc0_34) rfl (XS.iloadN W366.here W366.hx rfl (hb hby dc0_35) rfl q9_))) ?_
  show Go _ _ _ _ _ _ _ _ _ (T365.setTop (mkF m 36 #[.val (.ref x), .val (.ref ba), .val (.int (0 : Int32)), .val (.int (3 : Int32)), .val .null, .unset] [(.int (3 : Int32)), (.int (0 : Int32)), (.ref ba)]))
  refine W366.callS (y := (⟨"java/lang/StringUTF16", "compress", "([CII)[B"⟩ : MethodName)) (wd35 hw) (wd36 hw) (wd37 hw) (wd38 hw) (by decide) (c_cm3_3 l Z a0 hw hEL h0 W366.old ba kb c0 c1 c2 PSH A_b r0 r1 r2 hbig) all0 (by decide) (by decide) (k' := 2) (n' := 9) rfl rfl (by decide) (by decide) (by rw [hml]; rfl) (argsL := [(.ref ba), (.int (0 : Int32)), (.int (3 : Int32))]) (rest := []) (lenOf pd_5 rfl) rfl rfl (Wt := 0) (Nat.le_of_eq rfl) (hb hby dc0_36) ?_
  intro v_ T367 h369 W368 hq_
  obtain ⟨ta, k_ta, rfl, X1, E_ta, A_ta⟩ := hq_
  refine Go.by (fun t9_ q9_ => XS.astore W368.here W368.hx rfl (hb hby dc0_39) rfl rfl (l' := #[.val (.ref x), .val (.ref ba), .val (.int (0 : Int32)), .val (.int (3 : Int32)), .val .null, .val (.ref ta)]) rfl (XS.aloadN W368.here W368.hx rfl (hb hby dc0_41) rfl rfl (XS.aload W368.here W368.hx rfl (hb hby dc0_42) rfl rfl (XS.iloadN W368.here W368.hx rfl (hb hby dc0_44) rfl q9_)))) ?_
  show Go _ _ _ _ _ _ _ _ _ (T367.setTop (mkF m 45 #[.val (.ref x), .val (.ref ba), .val (.int (0 : Int32)), .val (.int (3 : Int32)), .val .null, .val (.ref ta)] [(.int (3 : Int32)), (.ref ta), (.ref x)]))
  refine W368.callSp (y := (⟨"java/lang/StringUTF16", "coderFromArrayLen", "([BI)B"⟩ : MethodName)) (wd42 hw) (wd43 hw) (wd37 hw) (wd44 hw) (by decide) (c_cod3 l Z a0 hw hEL h369 W368.old ta k_ta _ A_ta) all0 (by decide) (by decide) (k' := 2) (n' := 9) rfl rfl (by decide) (by decide) (by rw [hml]; rfl) (argsL := [(.ref ta), (.int (3 : Int32))]) (rest := [(.ref x)]) (lenOf pd_7 rfl) rfl rfl (Wt := 1) (Nat.le_of_eq rfl) (hb hby dc0_45) ?_
  intro T370 W371
  show Go _ _ _ _ _ _ _ _ _ (T370.setTop (mkF m 48 #[.val (.ref x), .val (.ref ba), .val (.int (0 : Int32)), .val (.int (3 : Int32)), .val .null, .val (.ref ta)] [(.int (1 : Int32)), (.ref x)]))
  refine W371.putf (host := "") (Or.inl (wd29 hw)) Via.refl (FC.ext X1) (E_x.ext X1) (Or.inr ⟨(wd25 hw), rfl, hnm⟩) (wd9 hw) (ty := .byte) (by decide) rfl rfl z_x (List.mem_of_getElem? (i := 0) rfl) (hb hby dc0_48) ?_
  intro T372 h373 W374 Wr375
  have F376 : Fld Z h373 x "java/lang/String" "coder" "B" (.int (1 : Int32)) := (FC.ext X1).same Wr375
  have F377 : Fld Z h373 x "java/lang/String" "value" "[B" .null := (FV.ext X1).other Wr375 (Or.inr (slot_ne (Or.inr (wd24 hw)) (Or.inr (wd25 hw)) (by decide) (t := (.array .byte)) (t' := .byte) (by decide) (by decide)))
  have A378 : Exa Z h373 x "java/lang/String" := (E_x.ext X1).wr Wr375
  refine Go.by (fun t9_ q9_ => XS.aloadN W374.here W374.hx rfl (hb hby dc0_51) rfl rfl (XS.aload W374.here W374.hx rfl (hb hby dc0_52) rfl rfl q9_)) ?_
  show Go _ _ _ _ _ _ _ _ _ (T372.setTop (mkF m 54 #[.val (.ref x), .val (.ref ba), .val (.int (0 : Int32)), .val (.int (3 : Int32)), .val .null, .val (.ref ta)] [(.ref ta), (.ref x)]))
  refine W374.putf (host := "") (Or.inl (wd28 hw)) Via.refl F377 A378 (Or.inr ⟨(wd24 hw), rfl, hnm⟩) (wd9 hw) (ty := (.array .byte)) (by decide) rfl rfl z_x (List.mem_of_getElem? (i := 0) rfl) (hb hby dc0_54) ?_
  intro T379 h380 W381 Wr382
  have F383 : Fld Z h380 x "java/lang/String" "value" "[B" (.ref ta) := F377.same Wr382
  have F384 : Fld Z h380 x "java/lang/String" "coder" "B" (.int (1 : Int32)) := F376.other Wr382 (Or.inr (slot_ne (Or.inr (wd25 hw)) (Or.inr (wd24 hw)) (by decide) (t := .byte) (t' := (.array .byte)) (by decide) (by decide)))
  have A385 : Exa Z h380 x "java/lang/String" := A378.wr Wr382
  show Go _ _ _ _ _ _ _ _ _ (T379.setTop (mkF m 57 #[.val (.ref x), .val (.ref ba), .val (.int (0 : Int32)), .val (.int (3 : Int32)), .val .null, .val (.ref ta)] []))
  exact W381.retV (by decide) (by decide) hret (hb hby dc0_57) ⟨rfl, ((((Keep.refl h0 [x]).ext X1).wr Wr375 (Or.inl (List.mem_of_getElem? (i := 0) rfl))).wr Wr382 (Or.inl (List.mem_of_getElem? (i := 0) rfl))), ta, k_ta, A385, F383, F384, ((A_ta.other Wr375 (Exa.ne E_ta (E_x.ext X1) (by decide))).other Wr382 (Exa.ne (E_ta.wr Wr375) A378 (by decide)))⟩
theorem c_s16_3 (l : Launch) (Z : State) (a0 : Array Value) (hw : HW Z a0) (hEL : EW Z a0 [("java/lang/String", 7)]) (h0 : Heap) (hE0 : Ext Z.heap h0) (x ba : Addr) (kb : ClassId) (c0 c1 c2 G1 : Int32) (E_x : Exa Z h0 x "java/lang/String") (FV : Fld Z h0 x "java/lang/String" "value" "[B" .null) (FC : Fld Z h0 x "java/lang/String" "coder" "B" (.int 0)) (z_x : Z.heap.size ≤ x) (PSH : PS3 Z) (SG1 : Sta Z Z.heap "java/lang/String" "COMPACT_STRINGS" "Z" (.int G1)) (hG : ¬ G1 = 0) (A_b : Arv Z h0 ba kb .char (3 : Int32) [(.int c0), (.int c1), (.int c2)] (.int (0 : Int32))) (r0 : ¬ c0 < 0 ∧ ¬ (65535 : Int32) < c0) (r1 : ¬ c1 < 0 ∧ ¬ (65535 : Int32) < c1) (r2 : ¬ c2 < 0 ∧ ¬ (65535 : Int32) < c2) (hbig : (255 : Int32) < c0 ∨ (255 : Int32) < c1 ∨ (255 : Int32) < c2) :
    Con l Z [("java/lang/String", 7)] [x] (⟨"java/lang/String", "<init>", "([C)V"⟩ : MethodName) jdk_42_method_3_code 2 none [] (⟨5, 2, 9, 74⟩ : Room) #[(.ref x), (.ref ba)] h0 (fun v h' => v = none ∧ Keep h0 h' [x] ∧ ∃ ta kt, Exa Z h' x "java/lang/String" ∧ Fld Z h' x "java/lang/String" "value" "[B" (.ref ta) ∧ Fld Z h' x "java/lang/String" "coder" "B" (.int 1) ∧ Arv Z h' ta kt .byte (6 : Int32) [(.int (StrChars.lo8 c0)), (.int (StrChars.hi8 c0)), (.int (StrChars.lo8 c1)), (.int (StrChars.hi8 c1)), (.int (StrChars.lo8 c2)), (.int (StrChars.hi8 c2))] (.int (0 : Int32))) := by
  refine Con.mk (plainFor_of_name pn_0) hEL hE0 (allS E_x.lt all0) ?_
  intro p e s m below meth c T0 hby hml hret hnm W0
  rw [(show entryFrame m #[(.ref x), (.ref ba)] 2 = mkF m 0 #[.val (.ref x), .val (.ref ba)] [] from by first | (simp [entryFrame, mkF, argsToLocals, Value.category]; done) | rfl)]
  refine Go.by (fun t9_ q9_ => XS.aloadN W0.here W0.hx rfl (hb hby dc1_0) rfl rfl (XS.aloadN W0.here W0.hx rfl (hb hby dc1_1) rfl rfl (XS.iconst W0.here W0.hx rfl (hb hby dc1_2) (XS.aloadN W0.here W0.hx rfl (hb hby dc1_3) rfl rfl q9_)))) ?_
  show Go _ _ _ _ _ _ _ _ _ (T0.setTop (mkF m 4 #[.val (.ref x), .val (.ref ba)] [(.ref ba), (.int (0 : Int32)), (.ref ba), (.ref x)]))
  refine W0.alen A_b (hb hby dc1_4) ?_
  refine Go.by (fun t9_ q9_ => XS.aconstNull W0.here W0.hx rfl (hb hby dc1_5) q9_) ?_
  show Go _ _ _ _ _ _ _ _ _ (T0.setTop (mkF m 6 #[.val (.ref x), .val (.ref ba)] [.null, (.int (3 : Int32)), (.int (0 : Int32)), (.ref ba), (.ref x)]))
  refine W0.callI (y := (⟨"java/lang/String", "<init>", "([CIILjava/lang/Void;)V"⟩ : MethodName)) rfl (wd15 hw) (wd16 hw) (wd10 hw) (wd18 hw) (by decide) (a := x) (c_s4_3 l Z a0 hw hEL h0 hE0 x ba kb c0 c1 c2 G1 E_x FV FC z_x PSH SG1 hG A_b r0 r1 r2 hbig) (allS (List.mem_of_getElem? (i := 0) rfl) all0) (by decide) (by decide) (k' := 2) (n' := 9) rfl rfl (by decide) (by decide) (by rw [hml]; rfl) (argsL := [(.ref ba), (.int (0 : Int32)), (.int (3 : Int32)), .null]) (rest := []) (lenOf pd_0 rfl) rfl rfl (Wt := 0) (Nat.le_of_eq rfl) (hb hby dc1_6) ?_
  intro v_ T386 h388 W387 hq_
  obtain ⟨rfl, K1, S1⟩ := hq_
  show Go _ _ _ _ _ _ _ _ _ (T386.setTop (mkF m 9 #[.val (.ref x), .val (.ref ba)] []))
  exact W387.retV (by decide) (by decide) hret (hb hby dc1_9) ⟨rfl, K1, S1⟩
theorem c_nbl4 (l : Launch) (Z : State) (a0 : Array Value) (hw : HW Z a0) (hEL : EW Z a0 [("java/lang/String", 7)]) (h0 : Heap) (hE0 : Ext Z.heap h0)   :
    Con l Z [("java/lang/String", 7)] [] (⟨"java/lang/StringUTF16", "newBytesLength", "(I)I"⟩ : MethodName) jdk_52_method_3_code 1 (some .int) [] (⟨0, 0, 0, 0⟩ : Room) #[(.int (4 : Int32))] h0 (fun v h' => v = (some (.int (8 : Int32))) ∧ h' = h0) := by
  refine Con.mk (plainFor_of_name pn_1) hEL hE0 (fun x hx => by cases hx) ?_
  intro p e s m below meth c T0 hby hml hret hnm W0
  rw [(show entryFrame m #[(.int (4 : Int32))] 1 = mkF m 0 #[.val (.int (4 : Int32))] [] from by first | (simp [entryFrame, mkF, argsToLocals, Value.category]; done) | rfl)]
  refine Go.by (fun t9_ q9_ => XS.iloadN W0.here W0.hx rfl (hb hby dc2_0) rfl q9_) ?_
  refine Go.by (fun t9_ q9_ => XS.ifYes W0.here W0.hx rfl (pc0 := 1) (pc' := 12) rfl (hb hby dc2_1) rfl ((if0 _ _).trans (flt (by decide)).2.1) (by decide) (by decide) q9_) ?_
  refine Go.by (fun t9_ q9_ => XS.iloadN W0.here W0.hx rfl (hb hby dc2_12) rfl q9_) ?_
  show Go _ _ _ _ _ _ _ _ _ (T0.setTop (mkF m 13 #[.val (.int (4 : Int32))] [(.int (4 : Int32))]))
  refine W0.ldcI (wd54 hw) (hb hby dc2_13) ?_
  refine Go.by (fun t9_ q9_ => XS.icmpYes W0.here W0.hx rfl (pc0 := 15) (pc' := 55) rfl (hb hby dc2_15) rfl (tlt (by decide)).1 (by decide) (by decide) q9_) ?_
  refine Go.by (fun t9_ q9_ => XS.iloadN W0.here W0.hx rfl (hb hby dc2_55) rfl (XS.iconst W0.here W0.hx rfl (hb hby dc2_56) (XS.ishl W0.here W0.hx rfl (hb hby dc2_57) rfl q9_))) ?_
  show Go _ _ _ _ _ _ _ _ _ (T0.setTop (mkF m 58 #[.val (.int (4 : Int32))] [(.int ((4 : Int32) <<< ((1 : Int32) &&& 31)))]))
  rw [show ((4 : Int32) <<< ((1 : Int32) &&& 31)) = (8 : Int32) from by decide]
  show Go _ _ _ _ _ _ _ _ _ (T0.setTop (mkF m 58 #[.val (.int (4 : Int32))] [(.int (8 : Int32))]))
  exact W0.retI (by decide) (by decide) hret (hb hby dc2_58) ⟨rfl, rfl⟩
theorem c_nbf4 (l : Launch) (Z : State) (a0 : Array Value) (hw : HW Z a0) (hEL : EW Z a0 [("java/lang/String", 7)]) (h0 : Heap) (hE0 : Ext Z.heap h0)   :
    Con l Z [("java/lang/String", 7)] [] (⟨"java/lang/StringUTF16", "newBytesFor", "(I)[B"⟩ : MethodName) jdk_52_method_2_code 1 (some (.array .byte)) [] (⟨1, 1, 8, 12⟩ : Room) #[(.int (4 : Int32))] h0 (fun v h' => ∃ ta kt, v = some (.ref ta) ∧ Ext h0 h' ∧ Z.heap.size ≤ ta ∧ h0.size = ta ∧ Exa Z h' ta "[B" ∧ Arv Z h' ta kt .byte (8 : Int32) [(.int (0 : Int32)), (.int (0 : Int32)), (.int (0 : Int32)), (.int (0 : Int32)), (.int (0 : Int32)), (.int (0 : Int32)), (.int (0 : Int32)), (.int (0 : Int32))] (.int (0 : Int32))) := by
  refine Con.mk (plainFor_of_name pn_1) hEL hE0 (fun x hx => by cases hx) ?_
  intro p e s m below meth c T0 hby hml hret hnm W0
  rw [(show entryFrame m #[(.int (4 : Int32))] 1 = mkF m 0 #[.val (.int (4 : Int32))] [] from by first | (simp [entryFrame, mkF, argsToLocals, Value.category]; done) | rfl)]
  refine Go.by (fun t9_ q9_ => XS.iloadN W0.here W0.hx rfl (hb hby dc3_0) rfl q9_) ?_
  show Go _ _ _ _ _ _ _ _ _ (T0.setTop (mkF m 1 #[.val (.int (4 : Int32))] [(.int (4 : Int32))]))
  refine W0.callSp (y := (⟨"java/lang/StringUTF16", "newBytesLength", "(I)I"⟩ : MethodName)) (wd51 hw) (wd52 hw) (wd37 hw) (wd53 hw) (by decide) (c_nbl4 l Z a0 hw hEL h0 hE0) all0 (by decide) (by decide) (k' := 0) (n' := 0) rfl rfl (by decide) (by decide) (by rw [hml]; rfl) (argsL := [(.int (4 : Int32))]) (rest := []) (lenOf pd_1 rfl) rfl rfl (Wt := 0) (Nat.le_of_eq rfl) (hb hby dc3_1) ?_
  intro T389 W390
  show Go _ _ _ _ _ _ _ _ _ (T389.setTop (mkF m 4 #[.val (.int (4 : Int32))] [(.int (8 : Int32))]))
  refine W390.newp (aty := .byte) (wd23 hw) (hb hby dc3_4) (by decide) (cap := 8) (by decide) (by decide) (k' := 1) (n' := 8) rfl rfl (by decide) (by decide) (ad := "[B") rfl ?_
  intro T391 h392 ta k_ta W393 E394 g_ta z_ta A_ta V_ta
  have V1_ta : Arv Z h392 ta k_ta .byte (8 : Int32) [(.int (0 : Int32)), (.int (0 : Int32)), (.int (0 : Int32)), (.int (0 : Int32)), (.int (0 : Int32)), (.int (0 : Int32)), (.int (0 : Int32)), (.int (0 : Int32))] (.int (0 : Int32)) := V_ta.pad (pad_rep [] (.int (0 : Int32)) 8)
  show Go _ _ _ _ _ _ _ _ _ (T391.setTop (mkF m 6 #[.val (.int (4 : Int32))] [(.ref ta)]))
  exact W393.retA (by decide) (by decide) hret rfl rfl (hb hby dc3_6) ⟨ta, k_ta, rfl, E394, z_ta, g_ta, A_ta, V1_ta⟩
theorem c_put4_0 (l : Launch) (Z : State) (a0 : Array Value) (hw : HW Z a0) (hEL : EW Z a0 [("java/lang/String", 7)]) (h0 : Heap) (hE0 : Ext Z.heap h0) (ta : Addr) (k_ta : ClassId) (b0 b1 b2 b3 b4 b5 b6 b7 : Value) (cc : Int32) (PSH : PS3 Z) (A_t : Arv Z h0 ta k_ta .byte (8 : Int32) [b0, b1, b2, b3, b4, b5, b6, b7] (.int (0 : Int32))) (z_ta : Z.heap.size ≤ ta) :
    Con l Z [("java/lang/String", 7)] [ta] (⟨"java/lang/StringUTF16", "putChar", "([BII)V"⟩ : MethodName) jdk_52_method_4_code 3 none [] (⟨0, 0, 0, 0⟩ : Room) #[(.ref ta), (.int (0 : Int32)), (.int cc)] h0 (fun v h' => v = none ∧ Keep h0 h' [ta] ∧ Arv Z h' ta k_ta .byte (8 : Int32) [(.int (StrChars.lo8 cc)), (.int (StrChars.hi8 cc)), b2, b3, b4, b5, b6, b7] (.int (0 : Int32))) := by
  refine Con.mk (plainFor_of_name pn_1) hEL hE0 (allS A_t.lt all0) ?_
  intro p e s m below meth c T0 hby hml hret hnm W0
  rw [(show entryFrame m #[(.ref ta), (.int (0 : Int32)), (.int cc)] 3 = mkF m 0 #[.val (.ref ta), .val (.int (0 : Int32)), .val (.int cc)] [] from by first | (simp [entryFrame, mkF, argsToLocals, Value.category]; done) | rfl)]
  refine W0.gets (host := "") (Or.inl (wd58 hw)) Via.refl (PSH.ad.ext W0.old) (hb hby dc4_0) ?_
  intro T395 W396
  refine Go.by (fun t9_ q9_ => XS.ifYes W396.here W396.hx rfl (pc0 := 3) (pc' := 28) rfl (hb hby dc4_3) rfl ((if0 _ _).trans (feq (by decide)).2) (by decide) (by decide) q9_) ?_
  refine Go.by (fun t9_ q9_ => XS.iloadN W396.here W396.hx rfl (hb hby dc4_28) rfl (XS.iconst W396.here W396.hx rfl (hb hby dc4_29) (XS.ishl W396.here W396.hx rfl (hb hby dc4_30) rfl (XS.istoreN W396.here W396.hx rfl (hb hby dc4_31) rfl (l' := #[.val (.ref ta), .val (.int ((0 : Int32) <<< ((1 : Int32) &&& 31))), .val (.int cc)]) rfl q9_)))) ?_
  show Go _ _ _ _ _ _ _ _ _ (T395.setTop (mkF m 32 #[.val (.ref ta), .val (.int ((0 : Int32) <<< ((1 : Int32) &&& 31))), .val (.int cc)] []))
  rw [show ((0 : Int32) <<< ((1 : Int32) &&& 31)) = (0 : Int32) from by decide]
  refine Go.by (fun t9_ q9_ => XS.aloadN W396.here W396.hx rfl (hb hby dc4_32) rfl rfl (XS.iloadN W396.here W396.hx rfl (hb hby dc4_33) rfl (XS.iinc W396.here W396.hx rfl (hb hby dc4_34) rfl (l' := #[.val (.ref ta), .val (.int ((0 : Int32) + (1 : Int32))), .val (.int cc)]) rfl q9_))) ?_
  show Go _ _ _ _ _ _ _ _ _ (T395.setTop (mkF m 37 #[.val (.ref ta), .val (.int (1 : Int32)), .val (.int cc)] [(.int (0 : Int32)), (.ref ta)]))
  refine Go.by (fun t9_ q9_ => XS.iloadN W396.here W396.hx rfl (hb hby dc4_37) rfl q9_) ?_
  show Go _ _ _ _ _ _ _ _ _ (T395.setTop (mkF m 38 #[.val (.ref ta), .val (.int (1 : Int32)), .val (.int cc)] [(.int cc), (.int (0 : Int32)), (.ref ta)]))
  refine W396.gets (host := "") (Or.inl (wd59 hw)) Via.refl (PSH.hi.ext W396.old) (hb hby dc4_38) ?_
  intro T397 W398
  refine Go.by (fun t9_ q9_ => XS.ishr W398.here W398.hx rfl (hb hby dc4_41) rfl (XS.i2b W398.here W398.hx rfl (hb hby dc4_42) rfl q9_)) ?_
  show Go _ _ _ _ _ _ _ _ _ (T397.setTop (mkF m 43 #[.val (.ref ta), .val (.int (1 : Int32)), .val (.int cc)] [(.int ((cc >>> ((0 : Int32) &&& 31)).toInt8.toInt32)), (.int (0 : Int32)), (.ref ta)]))
  refine W398.bast A_t ⟨by decide, by decide⟩ (i := 0) rfl (by simp) (v' := (StrChars.lo8 cc)) (by rw [StrChars.shr0]; simp [nar, StrChars.lo8, lo8_lo8]) z_ta (List.mem_of_getElem? (i := 0) rfl) (hb hby dc4_43) ?_
  intro T399 h400 W401 Wr402 V403_ta'
  have V403_ta : Arv Z h400 ta k_ta .byte (8 : Int32) [(.int (StrChars.lo8 cc)), b1, b2, b3, b4, b5, b6, b7] (.int (0 : Int32)) := V403_ta'
  refine Go.by (fun t9_ q9_ => XS.aloadN W401.here W401.hx rfl (hb hby dc4_44) rfl rfl (XS.iloadN W401.here W401.hx rfl (hb hby dc4_45) rfl (XS.iloadN W401.here W401.hx rfl (hb hby dc4_46) rfl q9_))) ?_
  show Go _ _ _ _ _ _ _ _ _ (T399.setTop (mkF m 47 #[.val (.ref ta), .val (.int (1 : Int32)), .val (.int cc)] [(.int cc), (.int (1 : Int32)), (.ref ta)]))
  refine W401.gets (host := "") (Or.inl (wd60 hw)) Via.refl (PSH.lo.ext W401.old) (hb hby dc4_47) ?_
  intro T404 W405
  refine Go.by (fun t9_ q9_ => XS.ishr W405.here W405.hx rfl (hb hby dc4_50) rfl (XS.i2b W405.here W405.hx rfl (hb hby dc4_51) rfl q9_)) ?_
  show Go _ _ _ _ _ _ _ _ _ (T404.setTop (mkF m 52 #[.val (.ref ta), .val (.int (1 : Int32)), .val (.int cc)] [(.int ((cc >>> ((8 : Int32) &&& 31)).toInt8.toInt32)), (.int (1 : Int32)), (.ref ta)]))
  refine W405.bast V403_ta ⟨by decide, by decide⟩ (i := 1) rfl (by simp) (v' := (StrChars.hi8 cc)) (by simp [nar, StrChars.hi8, StrChars.lo8, lo8_lo8]) z_ta (List.mem_of_getElem? (i := 0) rfl) (hb hby dc4_52) ?_
  intro T406 h407 W408 Wr409 V410_ta'
  have V410_ta : Arv Z h407 ta k_ta .byte (8 : Int32) [(.int (StrChars.lo8 cc)), (.int (StrChars.hi8 cc)), b2, b3, b4, b5, b6, b7] (.int (0 : Int32)) := V410_ta'
  show Go _ _ _ _ _ _ _ _ _ (T406.setTop (mkF m 53 #[.val (.ref ta), .val (.int (1 : Int32)), .val (.int cc)] []))
  exact W408.retV (by decide) (by decide) hret (hb hby dc4_53) ⟨rfl, (((Keep.refl h0 [ta]).wr Wr402 (Or.inl (List.mem_of_getElem? (i := 0) rfl))).wr Wr409 (Or.inl (List.mem_of_getElem? (i := 0) rfl))), V410_ta⟩
theorem c_get4_0 (l : Launch) (Z : State) (a0 : Array Value) (hw : HW Z a0) (hEL : EW Z a0 [("java/lang/String", 7)]) (h0 : Heap) (hE0 : Ext Z.heap h0) (ta : Addr) (k_ta : ClassId) (vs : List Value) (uu vv cc : Int32) (PSH : PS3 Z) (A_t : Arv Z h0 ta k_ta .byte (8 : Int32) vs (.int (0 : Int32))) (hu : vs.getD 0 (.int (0 : Int32)) = .int uu) (hv : vs.getD 1 (.int (0 : Int32)) = .int vv) (hp : StrChars.pairCh uu vv = cc) (r_c : ¬ cc < 0 ∧ ¬ (65535 : Int32) < cc) :
    Con l Z [("java/lang/String", 7)] [] (⟨"java/lang/StringUTF16", "getChar", "([BI)C"⟩ : MethodName) jdk_52_method_5_code 2 (some .char) [] (⟨0, 0, 0, 0⟩ : Room) #[(.ref ta), (.int (0 : Int32))] h0 (fun v h' => v = (some (.int cc)) ∧ h' = h0) := by
  refine Con.mk (plainFor_of_name pn_1) hEL hE0 (fun x hx => by cases hx) ?_
  intro p e s m below meth c T0 hby hml hret hnm W0
  rw [(show entryFrame m #[(.ref ta), (.int (0 : Int32))] 2 = mkF m 0 #[.val (.ref ta), .val (.int (0 : Int32))] [] from by first | (simp [entryFrame, mkF, argsToLocals, Value.category]; done) | rfl)]
  refine W0.gets (host := "") (Or.inl (wd58 hw)) Via.refl (PSH.ad.ext W0.old) (hb hby dc5_0) ?_
  intro T411 W412
  refine Go.by (fun t9_ q9_ => XS.ifYes W412.here W412.hx rfl (pc0 := 3) (pc' := 28) rfl (hb hby dc5_3) rfl ((if0 _ _).trans (feq (by decide)).2) (by decide) (by decide) q9_) ?_
  refine Go.by (fun t9_ q9_ => XS.iloadN W412.here W412.hx rfl (hb hby dc5_28) rfl (XS.iconst W412.here W412.hx rfl (hb hby dc5_29) (XS.ishl W412.here W412.hx rfl (hb hby dc5_30) rfl (XS.istoreN W412.here W412.hx rfl (hb hby dc5_31) rfl (l' := #[.val (.ref ta), .val (.int ((0 : Int32) <<< ((1 : Int32) &&& 31)))]) rfl q9_)))) ?_
  show Go _ _ _ _ _ _ _ _ _ (T411.setTop (mkF m 32 #[.val (.ref ta), .val (.int ((0 : Int32) <<< ((1 : Int32) &&& 31)))] []))
  rw [show ((0 : Int32) <<< ((1 : Int32) &&& 31)) = (0 : Int32) from by decide]
  refine Go.by (fun t9_ q9_ => XS.aloadN W412.here W412.hx rfl (hb hby dc5_32) rfl rfl (XS.iloadN W412.here W412.hx rfl (hb hby dc5_33) rfl (XS.iinc W412.here W412.hx rfl (hb hby dc5_34) rfl (l' := #[.val (.ref ta), .val (.int ((0 : Int32) + (1 : Int32)))]) rfl q9_))) ?_
  show Go _ _ _ _ _ _ _ _ _ (T411.setTop (mkF m 37 #[.val (.ref ta), .val (.int (1 : Int32))] [(.int (0 : Int32)), (.ref ta)]))
  refine W412.bald A_t ⟨by decide, by decide⟩ (v := (.int uu)) hu (hb hby dc5_37) ?_
  refine Go.by (fun t9_ q9_ => XS.sipush W412.here W412.hx rfl (hb hby dc5_38) (XS.iand W412.here W412.hx rfl (hb hby dc5_41) rfl q9_)) ?_
  show Go _ _ _ _ _ _ _ _ _ (T411.setTop (mkF m 42 #[.val (.ref ta), .val (.int (1 : Int32))] [(.int (uu &&& (255 : Int32)))]))
  refine W412.gets (host := "") (Or.inl (wd59 hw)) Via.refl (PSH.hi.ext W412.old) (hb hby dc5_42) ?_
  intro T413 W414
  refine Go.by (fun t9_ q9_ => XS.ishl W414.here W414.hx rfl (hb hby dc5_45) rfl (XS.aloadN W414.here W414.hx rfl (hb hby dc5_46) rfl rfl (XS.iloadN W414.here W414.hx rfl (hb hby dc5_47) rfl q9_))) ?_
  show Go _ _ _ _ _ _ _ _ _ (T413.setTop (mkF m 48 #[.val (.ref ta), .val (.int (1 : Int32))] [(.int (1 : Int32)), (.ref ta), (.int ((uu &&& (255 : Int32)) <<< ((0 : Int32) &&& 31)))]))
  refine W414.bald A_t ⟨by decide, by decide⟩ (v := (.int vv)) hv (hb hby dc5_48) ?_
  refine Go.by (fun t9_ q9_ => XS.sipush W414.here W414.hx rfl (hb hby dc5_49) (XS.iand W414.here W414.hx rfl (hb hby dc5_52) rfl q9_)) ?_
  show Go _ _ _ _ _ _ _ _ _ (T413.setTop (mkF m 53 #[.val (.ref ta), .val (.int (1 : Int32))] [(.int (vv &&& (255 : Int32))), (.int ((uu &&& (255 : Int32)) <<< ((0 : Int32) &&& 31)))]))
  refine W414.gets (host := "") (Or.inl (wd60 hw)) Via.refl (PSH.lo.ext W414.old) (hb hby dc5_53) ?_
  intro T415 W416
  refine Go.by (fun t9_ q9_ => XS.ishl W416.here W416.hx rfl (hb hby dc5_56) rfl (XS.ior W416.here W416.hx rfl (hb hby dc5_57) rfl (XS.i2c W416.here W416.hx rfl (hb hby dc5_58) rfl q9_))) ?_
  show Go _ _ _ _ _ _ _ _ _ (T415.setTop (mkF m 59 #[.val (.ref ta), .val (.int (1 : Int32))] [(.int ((((uu &&& (255 : Int32)) <<< ((0 : Int32) &&& 31)) ||| ((vv &&& (255 : Int32)) <<< ((8 : Int32) &&& 31))).toUInt32.toUInt16.toUInt32.toInt32))]))
  exact W416.retN (z' := cc) (by decide) (by decide) hret (by simp) (hb hby dc5_59) (by show nar .char (StrChars.pairCh uu vv) = cc; rw [hp]; exact nar_id r_c) ⟨rfl, rfl⟩
theorem c_put4_1 (l : Launch) (Z : State) (a0 : Array Value) (hw : HW Z a0) (hEL : EW Z a0 [("java/lang/String", 7)]) (h0 : Heap) (hE0 : Ext Z.heap h0) (ta : Addr) (k_ta : ClassId) (b0 b1 b2 b3 b4 b5 b6 b7 : Value) (cc : Int32) (PSH : PS3 Z) (A_t : Arv Z h0 ta k_ta .byte (8 : Int32) [b0, b1, b2, b3, b4, b5, b6, b7] (.int (0 : Int32))) (z_ta : Z.heap.size ≤ ta) :
    Con l Z [("java/lang/String", 7)] [ta] (⟨"java/lang/StringUTF16", "putChar", "([BII)V"⟩ : MethodName) jdk_52_method_4_code 3 none [] (⟨0, 0, 0, 0⟩ : Room) #[(.ref ta), (.int (1 : Int32)), (.int cc)] h0 (fun v h' => v = none ∧ Keep h0 h' [ta] ∧ Arv Z h' ta k_ta .byte (8 : Int32) [b0, b1, (.int (StrChars.lo8 cc)), (.int (StrChars.hi8 cc)), b4, b5, b6, b7] (.int (0 : Int32))) := by
  refine Con.mk (plainFor_of_name pn_1) hEL hE0 (allS A_t.lt all0) ?_
  intro p e s m below meth c T0 hby hml hret hnm W0
  rw [(show entryFrame m #[(.ref ta), (.int (1 : Int32)), (.int cc)] 3 = mkF m 0 #[.val (.ref ta), .val (.int (1 : Int32)), .val (.int cc)] [] from by first | (simp [entryFrame, mkF, argsToLocals, Value.category]; done) | rfl)]
  refine W0.gets (host := "") (Or.inl (wd58 hw)) Via.refl (PSH.ad.ext W0.old) (hb hby dc4_0) ?_
  intro T417 W418
  refine Go.by (fun t9_ q9_ => XS.ifYes W418.here W418.hx rfl (pc0 := 3) (pc' := 28) rfl (hb hby dc4_3) rfl ((if0 _ _).trans (feq (by decide)).2) (by decide) (by decide) q9_) ?_
  refine Go.by (fun t9_ q9_ => XS.iloadN W418.here W418.hx rfl (hb hby dc4_28) rfl (XS.iconst W418.here W418.hx rfl (hb hby dc4_29) (XS.ishl W418.here W418.hx rfl (hb hby dc4_30) rfl (XS.istoreN W418.here W418.hx rfl (hb hby dc4_31) rfl (l' := #[.val (.ref ta), .val (.int ((1 : Int32) <<< ((1 : Int32) &&& 31))), .val (.int cc)]) rfl q9_)))) ?_
  show Go _ _ _ _ _ _ _ _ _ (T417.setTop (mkF m 32 #[.val (.ref ta), .val (.int ((1 : Int32) <<< ((1 : Int32) &&& 31))), .val (.int cc)] []))
  rw [show ((1 : Int32) <<< ((1 : Int32) &&& 31)) = (2 : Int32) from by decide]
  refine Go.by (fun t9_ q9_ => XS.aloadN W418.here W418.hx rfl (hb hby dc4_32) rfl rfl (XS.iloadN W418.here W418.hx rfl (hb hby dc4_33) rfl (XS.iinc W418.here W418.hx rfl (hb hby dc4_34) rfl (l' := #[.val (.ref ta), .val (.int ((2 : Int32) + (1 : Int32))), .val (.int cc)]) rfl q9_))) ?_
  show Go _ _ _ _ _ _ _ _ _ (T417.setTop (mkF m 37 #[.val (.ref ta), .val (.int (3 : Int32)), .val (.int cc)] [(.int (2 : Int32)), (.ref ta)]))
  refine Go.by (fun t9_ q9_ => XS.iloadN W418.here W418.hx rfl (hb hby dc4_37) rfl q9_) ?_
  show Go _ _ _ _ _ _ _ _ _ (T417.setTop (mkF m 38 #[.val (.ref ta), .val (.int (3 : Int32)), .val (.int cc)] [(.int cc), (.int (2 : Int32)), (.ref ta)]))
  refine W418.gets (host := "") (Or.inl (wd59 hw)) Via.refl (PSH.hi.ext W418.old) (hb hby dc4_38) ?_
  intro T419 W420
  refine Go.by (fun t9_ q9_ => XS.ishr W420.here W420.hx rfl (hb hby dc4_41) rfl (XS.i2b W420.here W420.hx rfl (hb hby dc4_42) rfl q9_)) ?_
  show Go _ _ _ _ _ _ _ _ _ (T419.setTop (mkF m 43 #[.val (.ref ta), .val (.int (3 : Int32)), .val (.int cc)] [(.int ((cc >>> ((0 : Int32) &&& 31)).toInt8.toInt32)), (.int (2 : Int32)), (.ref ta)]))
  refine W420.bast A_t ⟨by decide, by decide⟩ (i := 2) rfl (by simp) (v' := (StrChars.lo8 cc)) (by rw [StrChars.shr0]; simp [nar, StrChars.lo8, lo8_lo8]) z_ta (List.mem_of_getElem? (i := 0) rfl) (hb hby dc4_43) ?_
  intro T421 h422 W423 Wr424 V425_ta'
  have V425_ta : Arv Z h422 ta k_ta .byte (8 : Int32) [b0, b1, (.int (StrChars.lo8 cc)), b3, b4, b5, b6, b7] (.int (0 : Int32)) := V425_ta'
  refine Go.by (fun t9_ q9_ => XS.aloadN W423.here W423.hx rfl (hb hby dc4_44) rfl rfl (XS.iloadN W423.here W423.hx rfl (hb hby dc4_45) rfl (XS.iloadN W423.here W423.hx rfl (hb hby dc4_46) rfl q9_))) ?_
  show Go _ _ _ _ _ _ _ _ _ (T421.setTop (mkF m 47 #[.val (.ref ta), .val (.int (3 : Int32)), .val (.int cc)] [(.int cc), (.int (3 : Int32)), (.ref ta)]))
  refine W423.gets (host := "") (Or.inl (wd60 hw)) Via.refl (PSH.lo.ext W423.old) (hb hby dc4_47) ?_
  intro T426 W427
  refine Go.by (fun t9_ q9_ => XS.ishr W427.here W427.hx rfl (hb hby dc4_50) rfl (XS.i2b W427.here W427.hx rfl (hb hby dc4_51) rfl q9_)) ?_
  show Go _ _ _ _ _ _ _ _ _ (T426.setTop (mkF m 52 #[.val (.ref ta), .val (.int (3 : Int32)), .val (.int cc)] [(.int ((cc >>> ((8 : Int32) &&& 31)).toInt8.toInt32)), (.int (3 : Int32)), (.ref ta)]))
  refine W427.bast V425_ta ⟨by decide, by decide⟩ (i := 3) rfl (by simp) (v' := (StrChars.hi8 cc)) (by simp [nar, StrChars.hi8, StrChars.lo8, lo8_lo8]) z_ta (List.mem_of_getElem? (i := 0) rfl) (hb hby dc4_52) ?_
  intro T428 h429 W430 Wr431 V432_ta'
  have V432_ta : Arv Z h429 ta k_ta .byte (8 : Int32) [b0, b1, (.int (StrChars.lo8 cc)), (.int (StrChars.hi8 cc)), b4, b5, b6, b7] (.int (0 : Int32)) := V432_ta'
  show Go _ _ _ _ _ _ _ _ _ (T428.setTop (mkF m 53 #[.val (.ref ta), .val (.int (3 : Int32)), .val (.int cc)] []))
  exact W430.retV (by decide) (by decide) hret (hb hby dc4_53) ⟨rfl, (((Keep.refl h0 [ta]).wr Wr424 (Or.inl (List.mem_of_getElem? (i := 0) rfl))).wr Wr431 (Or.inl (List.mem_of_getElem? (i := 0) rfl))), V432_ta⟩
theorem c_get4_1 (l : Launch) (Z : State) (a0 : Array Value) (hw : HW Z a0) (hEL : EW Z a0 [("java/lang/String", 7)]) (h0 : Heap) (hE0 : Ext Z.heap h0) (ta : Addr) (k_ta : ClassId) (vs : List Value) (uu vv cc : Int32) (PSH : PS3 Z) (A_t : Arv Z h0 ta k_ta .byte (8 : Int32) vs (.int (0 : Int32))) (hu : vs.getD 2 (.int (0 : Int32)) = .int uu) (hv : vs.getD 3 (.int (0 : Int32)) = .int vv) (hp : StrChars.pairCh uu vv = cc) (r_c : ¬ cc < 0 ∧ ¬ (65535 : Int32) < cc) :
    Con l Z [("java/lang/String", 7)] [] (⟨"java/lang/StringUTF16", "getChar", "([BI)C"⟩ : MethodName) jdk_52_method_5_code 2 (some .char) [] (⟨0, 0, 0, 0⟩ : Room) #[(.ref ta), (.int (1 : Int32))] h0 (fun v h' => v = (some (.int cc)) ∧ h' = h0) := by
  refine Con.mk (plainFor_of_name pn_1) hEL hE0 (fun x hx => by cases hx) ?_
  intro p e s m below meth c T0 hby hml hret hnm W0
  rw [(show entryFrame m #[(.ref ta), (.int (1 : Int32))] 2 = mkF m 0 #[.val (.ref ta), .val (.int (1 : Int32))] [] from by first | (simp [entryFrame, mkF, argsToLocals, Value.category]; done) | rfl)]
  refine W0.gets (host := "") (Or.inl (wd58 hw)) Via.refl (PSH.ad.ext W0.old) (hb hby dc5_0) ?_
  intro T433 W434
  refine Go.by (fun t9_ q9_ => XS.ifYes W434.here W434.hx rfl (pc0 := 3) (pc' := 28) rfl (hb hby dc5_3) rfl ((if0 _ _).trans (feq (by decide)).2) (by decide) (by decide) q9_) ?_
  refine Go.by (fun t9_ q9_ => XS.iloadN W434.here W434.hx rfl (hb hby dc5_28) rfl (XS.iconst W434.here W434.hx rfl (hb hby dc5_29) (XS.ishl W434.here W434.hx rfl (hb hby dc5_30) rfl (XS.istoreN W434.here W434.hx rfl (hb hby dc5_31) rfl (l' := #[.val (.ref ta), .val (.int ((1 : Int32) <<< ((1 : Int32) &&& 31)))]) rfl q9_)))) ?_
  show Go _ _ _ _ _ _ _ _ _ (T433.setTop (mkF m 32 #[.val (.ref ta), .val (.int ((1 : Int32) <<< ((1 : Int32) &&& 31)))] []))
  rw [show ((1 : Int32) <<< ((1 : Int32) &&& 31)) = (2 : Int32) from by decide]
  refine Go.by (fun t9_ q9_ => XS.aloadN W434.here W434.hx rfl (hb hby dc5_32) rfl rfl (XS.iloadN W434.here W434.hx rfl (hb hby dc5_33) rfl (XS.iinc W434.here W434.hx rfl (hb hby dc5_34) rfl (l' := #[.val (.ref ta), .val (.int ((2 : Int32) + (1 : Int32)))]) rfl q9_))) ?_
  show Go _ _ _ _ _ _ _ _ _ (T433.setTop (mkF m 37 #[.val (.ref ta), .val (.int (3 : Int32))] [(.int (2 : Int32)), (.ref ta)]))
  refine W434.bald A_t ⟨by decide, by decide⟩ (v := (.int uu)) hu (hb hby dc5_37) ?_
  refine Go.by (fun t9_ q9_ => XS.sipush W434.here W434.hx rfl (hb hby dc5_38) (XS.iand W434.here W434.hx rfl (hb hby dc5_41) rfl q9_)) ?_
  show Go _ _ _ _ _ _ _ _ _ (T433.setTop (mkF m 42 #[.val (.ref ta), .val (.int (3 : Int32))] [(.int (uu &&& (255 : Int32)))]))
  refine W434.gets (host := "") (Or.inl (wd59 hw)) Via.refl (PSH.hi.ext W434.old) (hb hby dc5_42) ?_
  intro T435 W436
  refine Go.by (fun t9_ q9_ => XS.ishl W436.here W436.hx rfl (hb hby dc5_45) rfl (XS.aloadN W436.here W436.hx rfl (hb hby dc5_46) rfl rfl (XS.iloadN W436.here W436.hx rfl (hb hby dc5_47) rfl q9_))) ?_
  show Go _ _ _ _ _ _ _ _ _ (T435.setTop (mkF m 48 #[.val (.ref ta), .val (.int (3 : Int32))] [(.int (3 : Int32)), (.ref ta), (.int ((uu &&& (255 : Int32)) <<< ((0 : Int32) &&& 31)))]))
  refine W436.bald A_t ⟨by decide, by decide⟩ (v := (.int vv)) hv (hb hby dc5_48) ?_
  refine Go.by (fun t9_ q9_ => XS.sipush W436.here W436.hx rfl (hb hby dc5_49) (XS.iand W436.here W436.hx rfl (hb hby dc5_52) rfl q9_)) ?_
  show Go _ _ _ _ _ _ _ _ _ (T435.setTop (mkF m 53 #[.val (.ref ta), .val (.int (3 : Int32))] [(.int (vv &&& (255 : Int32))), (.int ((uu &&& (255 : Int32)) <<< ((0 : Int32) &&& 31)))]))
  refine W436.gets (host := "") (Or.inl (wd60 hw)) Via.refl (PSH.lo.ext W436.old) (hb hby dc5_53) ?_
  intro T437 W438
  refine Go.by (fun t9_ q9_ => XS.ishl W438.here W438.hx rfl (hb hby dc5_56) rfl (XS.ior W438.here W438.hx rfl (hb hby dc5_57) rfl (XS.i2c W438.here W438.hx rfl (hb hby dc5_58) rfl q9_))) ?_
  show Go _ _ _ _ _ _ _ _ _ (T437.setTop (mkF m 59 #[.val (.ref ta), .val (.int (3 : Int32))] [(.int ((((uu &&& (255 : Int32)) <<< ((0 : Int32) &&& 31)) ||| ((vv &&& (255 : Int32)) <<< ((8 : Int32) &&& 31))).toUInt32.toUInt16.toUInt32.toInt32))]))
  exact W438.retN (z' := cc) (by decide) (by decide) hret (by simp) (hb hby dc5_59) (by show nar .char (StrChars.pairCh uu vv) = cc; rw [hp]; exact nar_id r_c) ⟨rfl, rfl⟩
theorem c_put4_2 (l : Launch) (Z : State) (a0 : Array Value) (hw : HW Z a0) (hEL : EW Z a0 [("java/lang/String", 7)]) (h0 : Heap) (hE0 : Ext Z.heap h0) (ta : Addr) (k_ta : ClassId) (b0 b1 b2 b3 b4 b5 b6 b7 : Value) (cc : Int32) (PSH : PS3 Z) (A_t : Arv Z h0 ta k_ta .byte (8 : Int32) [b0, b1, b2, b3, b4, b5, b6, b7] (.int (0 : Int32))) (z_ta : Z.heap.size ≤ ta) :
    Con l Z [("java/lang/String", 7)] [ta] (⟨"java/lang/StringUTF16", "putChar", "([BII)V"⟩ : MethodName) jdk_52_method_4_code 3 none [] (⟨0, 0, 0, 0⟩ : Room) #[(.ref ta), (.int (2 : Int32)), (.int cc)] h0 (fun v h' => v = none ∧ Keep h0 h' [ta] ∧ Arv Z h' ta k_ta .byte (8 : Int32) [b0, b1, b2, b3, (.int (StrChars.lo8 cc)), (.int (StrChars.hi8 cc)), b6, b7] (.int (0 : Int32))) := by
  refine Con.mk (plainFor_of_name pn_1) hEL hE0 (allS A_t.lt all0) ?_
  intro p e s m below meth c T0 hby hml hret hnm W0
  rw [(show entryFrame m #[(.ref ta), (.int (2 : Int32)), (.int cc)] 3 = mkF m 0 #[.val (.ref ta), .val (.int (2 : Int32)), .val (.int cc)] [] from by first | (simp [entryFrame, mkF, argsToLocals, Value.category]; done) | rfl)]
  refine W0.gets (host := "") (Or.inl (wd58 hw)) Via.refl (PSH.ad.ext W0.old) (hb hby dc4_0) ?_
  intro T439 W440
  refine Go.by (fun t9_ q9_ => XS.ifYes W440.here W440.hx rfl (pc0 := 3) (pc' := 28) rfl (hb hby dc4_3) rfl ((if0 _ _).trans (feq (by decide)).2) (by decide) (by decide) q9_) ?_
  refine Go.by (fun t9_ q9_ => XS.iloadN W440.here W440.hx rfl (hb hby dc4_28) rfl (XS.iconst W440.here W440.hx rfl (hb hby dc4_29) (XS.ishl W440.here W440.hx rfl (hb hby dc4_30) rfl (XS.istoreN W440.here W440.hx rfl (hb hby dc4_31) rfl (l' := #[.val (.ref ta), .val (.int ((2 : Int32) <<< ((1 : Int32) &&& 31))), .val (.int cc)]) rfl q9_)))) ?_
  show Go _ _ _ _ _ _ _ _ _ (T439.setTop (mkF m 32 #[.val (.ref ta), .val (.int ((2 : Int32) <<< ((1 : Int32) &&& 31))), .val (.int cc)] []))
  rw [show ((2 : Int32) <<< ((1 : Int32) &&& 31)) = (4 : Int32) from by decide]
  refine Go.by (fun t9_ q9_ => XS.aloadN W440.here W440.hx rfl (hb hby dc4_32) rfl rfl (XS.iloadN W440.here W440.hx rfl (hb hby dc4_33) rfl (XS.iinc W440.here W440.hx rfl (hb hby dc4_34) rfl (l' := #[.val (.ref ta), .val (.int ((4 : Int32) + (1 : Int32))), .val (.int cc)]) rfl q9_))) ?_
  show Go _ _ _ _ _ _ _ _ _ (T439.setTop (mkF m 37 #[.val (.ref ta), .val (.int (5 : Int32)), .val (.int cc)] [(.int (4 : Int32)), (.ref ta)]))
  refine Go.by (fun t9_ q9_ => XS.iloadN W440.here W440.hx rfl (hb hby dc4_37) rfl q9_) ?_
  show Go _ _ _ _ _ _ _ _ _ (T439.setTop (mkF m 38 #[.val (.ref ta), .val (.int (5 : Int32)), .val (.int cc)] [(.int cc), (.int (4 : Int32)), (.ref ta)]))
  refine W440.gets (host := "") (Or.inl (wd59 hw)) Via.refl (PSH.hi.ext W440.old) (hb hby dc4_38) ?_
  intro T441 W442
  refine Go.by (fun t9_ q9_ => XS.ishr W442.here W442.hx rfl (hb hby dc4_41) rfl (XS.i2b W442.here W442.hx rfl (hb hby dc4_42) rfl q9_)) ?_
  show Go _ _ _ _ _ _ _ _ _ (T441.setTop (mkF m 43 #[.val (.ref ta), .val (.int (5 : Int32)), .val (.int cc)] [(.int ((cc >>> ((0 : Int32) &&& 31)).toInt8.toInt32)), (.int (4 : Int32)), (.ref ta)]))
  refine W442.bast A_t ⟨by decide, by decide⟩ (i := 4) rfl (by simp) (v' := (StrChars.lo8 cc)) (by rw [StrChars.shr0]; simp [nar, StrChars.lo8, lo8_lo8]) z_ta (List.mem_of_getElem? (i := 0) rfl) (hb hby dc4_43) ?_
  intro T443 h444 W445 Wr446 V447_ta'
  have V447_ta : Arv Z h444 ta k_ta .byte (8 : Int32) [b0, b1, b2, b3, (.int (StrChars.lo8 cc)), b5, b6, b7] (.int (0 : Int32)) := V447_ta'
  refine Go.by (fun t9_ q9_ => XS.aloadN W445.here W445.hx rfl (hb hby dc4_44) rfl rfl (XS.iloadN W445.here W445.hx rfl (hb hby dc4_45) rfl (XS.iloadN W445.here W445.hx rfl (hb hby dc4_46) rfl q9_))) ?_
  show Go _ _ _ _ _ _ _ _ _ (T443.setTop (mkF m 47 #[.val (.ref ta), .val (.int (5 : Int32)), .val (.int cc)] [(.int cc), (.int (5 : Int32)), (.ref ta)]))
  refine W445.gets (host := "") (Or.inl (wd60 hw)) Via.refl (PSH.lo.ext W445.old) (hb hby dc4_47) ?_
  intro T448 W449
  refine Go.by (fun t9_ q9_ => XS.ishr W449.here W449.hx rfl (hb hby dc4_50) rfl (XS.i2b W449.here W449.hx rfl (hb hby dc4_51) rfl q9_)) ?_
  show Go _ _ _ _ _ _ _ _ _ (T448.setTop (mkF m 52 #[.val (.ref ta), .val (.int (5 : Int32)), .val (.int cc)] [(.int ((cc >>> ((8 : Int32) &&& 31)).toInt8.toInt32)), (.int (5 : Int32)), (.ref ta)]))
  refine W449.bast V447_ta ⟨by decide, by decide⟩ (i := 5) rfl (by simp) (v' := (StrChars.hi8 cc)) (by simp [nar, StrChars.hi8, StrChars.lo8, lo8_lo8]) z_ta (List.mem_of_getElem? (i := 0) rfl) (hb hby dc4_52) ?_
  intro T450 h451 W452 Wr453 V454_ta'
  have V454_ta : Arv Z h451 ta k_ta .byte (8 : Int32) [b0, b1, b2, b3, (.int (StrChars.lo8 cc)), (.int (StrChars.hi8 cc)), b6, b7] (.int (0 : Int32)) := V454_ta'
  show Go _ _ _ _ _ _ _ _ _ (T450.setTop (mkF m 53 #[.val (.ref ta), .val (.int (5 : Int32)), .val (.int cc)] []))
  exact W452.retV (by decide) (by decide) hret (hb hby dc4_53) ⟨rfl, (((Keep.refl h0 [ta]).wr Wr446 (Or.inl (List.mem_of_getElem? (i := 0) rfl))).wr Wr453 (Or.inl (List.mem_of_getElem? (i := 0) rfl))), V454_ta⟩
theorem c_get4_2 (l : Launch) (Z : State) (a0 : Array Value) (hw : HW Z a0) (hEL : EW Z a0 [("java/lang/String", 7)]) (h0 : Heap) (hE0 : Ext Z.heap h0) (ta : Addr) (k_ta : ClassId) (vs : List Value) (uu vv cc : Int32) (PSH : PS3 Z) (A_t : Arv Z h0 ta k_ta .byte (8 : Int32) vs (.int (0 : Int32))) (hu : vs.getD 4 (.int (0 : Int32)) = .int uu) (hv : vs.getD 5 (.int (0 : Int32)) = .int vv) (hp : StrChars.pairCh uu vv = cc) (r_c : ¬ cc < 0 ∧ ¬ (65535 : Int32) < cc) :
    Con l Z [("java/lang/String", 7)] [] (⟨"java/lang/StringUTF16", "getChar", "([BI)C"⟩ : MethodName) jdk_52_method_5_code 2 (some .char) [] (⟨0, 0, 0, 0⟩ : Room) #[(.ref ta), (.int (2 : Int32))] h0 (fun v h' => v = (some (.int cc)) ∧ h' = h0) := by
  refine Con.mk (plainFor_of_name pn_1) hEL hE0 (fun x hx => by cases hx) ?_
  intro p e s m below meth c T0 hby hml hret hnm W0
  rw [(show entryFrame m #[(.ref ta), (.int (2 : Int32))] 2 = mkF m 0 #[.val (.ref ta), .val (.int (2 : Int32))] [] from by first | (simp [entryFrame, mkF, argsToLocals, Value.category]; done) | rfl)]
  refine W0.gets (host := "") (Or.inl (wd58 hw)) Via.refl (PSH.ad.ext W0.old) (hb hby dc5_0) ?_
  intro T455 W456
  refine Go.by (fun t9_ q9_ => XS.ifYes W456.here W456.hx rfl (pc0 := 3) (pc' := 28) rfl (hb hby dc5_3) rfl ((if0 _ _).trans (feq (by decide)).2) (by decide) (by decide) q9_) ?_
  refine Go.by (fun t9_ q9_ => XS.iloadN W456.here W456.hx rfl (hb hby dc5_28) rfl (XS.iconst W456.here W456.hx rfl (hb hby dc5_29) (XS.ishl W456.here W456.hx rfl (hb hby dc5_30) rfl (XS.istoreN W456.here W456.hx rfl (hb hby dc5_31) rfl (l' := #[.val (.ref ta), .val (.int ((2 : Int32) <<< ((1 : Int32) &&& 31)))]) rfl q9_)))) ?_
  show Go _ _ _ _ _ _ _ _ _ (T455.setTop (mkF m 32 #[.val (.ref ta), .val (.int ((2 : Int32) <<< ((1 : Int32) &&& 31)))] []))
  rw [show ((2 : Int32) <<< ((1 : Int32) &&& 31)) = (4 : Int32) from by decide]
  refine Go.by (fun t9_ q9_ => XS.aloadN W456.here W456.hx rfl (hb hby dc5_32) rfl rfl (XS.iloadN W456.here W456.hx rfl (hb hby dc5_33) rfl (XS.iinc W456.here W456.hx rfl (hb hby dc5_34) rfl (l' := #[.val (.ref ta), .val (.int ((4 : Int32) + (1 : Int32)))]) rfl q9_))) ?_
  show Go _ _ _ _ _ _ _ _ _ (T455.setTop (mkF m 37 #[.val (.ref ta), .val (.int (5 : Int32))] [(.int (4 : Int32)), (.ref ta)]))
  refine W456.bald A_t ⟨by decide, by decide⟩ (v := (.int uu)) hu (hb hby dc5_37) ?_
  refine Go.by (fun t9_ q9_ => XS.sipush W456.here W456.hx rfl (hb hby dc5_38) (XS.iand W456.here W456.hx rfl (hb hby dc5_41) rfl q9_)) ?_
  show Go _ _ _ _ _ _ _ _ _ (T455.setTop (mkF m 42 #[.val (.ref ta), .val (.int (5 : Int32))] [(.int (uu &&& (255 : Int32)))]))
  refine W456.gets (host := "") (Or.inl (wd59 hw)) Via.refl (PSH.hi.ext W456.old) (hb hby dc5_42) ?_
  intro T457 W458
  refine Go.by (fun t9_ q9_ => XS.ishl W458.here W458.hx rfl (hb hby dc5_45) rfl (XS.aloadN W458.here W458.hx rfl (hb hby dc5_46) rfl rfl (XS.iloadN W458.here W458.hx rfl (hb hby dc5_47) rfl q9_))) ?_
  show Go _ _ _ _ _ _ _ _ _ (T457.setTop (mkF m 48 #[.val (.ref ta), .val (.int (5 : Int32))] [(.int (5 : Int32)), (.ref ta), (.int ((uu &&& (255 : Int32)) <<< ((0 : Int32) &&& 31)))]))
  refine W458.bald A_t ⟨by decide, by decide⟩ (v := (.int vv)) hv (hb hby dc5_48) ?_
  refine Go.by (fun t9_ q9_ => XS.sipush W458.here W458.hx rfl (hb hby dc5_49) (XS.iand W458.here W458.hx rfl (hb hby dc5_52) rfl q9_)) ?_
  show Go _ _ _ _ _ _ _ _ _ (T457.setTop (mkF m 53 #[.val (.ref ta), .val (.int (5 : Int32))] [(.int (vv &&& (255 : Int32))), (.int ((uu &&& (255 : Int32)) <<< ((0 : Int32) &&& 31)))]))
  refine W458.gets (host := "") (Or.inl (wd60 hw)) Via.refl (PSH.lo.ext W458.old) (hb hby dc5_53) ?_
  intro T459 W460
  refine Go.by (fun t9_ q9_ => XS.ishl W460.here W460.hx rfl (hb hby dc5_56) rfl (XS.ior W460.here W460.hx rfl (hb hby dc5_57) rfl (XS.i2c W460.here W460.hx rfl (hb hby dc5_58) rfl q9_))) ?_
  show Go _ _ _ _ _ _ _ _ _ (T459.setTop (mkF m 59 #[.val (.ref ta), .val (.int (5 : Int32))] [(.int ((((uu &&& (255 : Int32)) <<< ((0 : Int32) &&& 31)) ||| ((vv &&& (255 : Int32)) <<< ((8 : Int32) &&& 31))).toUInt32.toUInt16.toUInt32.toInt32))]))
  exact W460.retN (z' := cc) (by decide) (by decide) hret (by simp) (hb hby dc5_59) (by show nar .char (StrChars.pairCh uu vv) = cc; rw [hp]; exact nar_id r_c) ⟨rfl, rfl⟩
theorem c_put4_3 (l : Launch) (Z : State) (a0 : Array Value) (hw : HW Z a0) (hEL : EW Z a0 [("java/lang/String", 7)]) (h0 : Heap) (hE0 : Ext Z.heap h0) (ta : Addr) (k_ta : ClassId) (b0 b1 b2 b3 b4 b5 b6 b7 : Value) (cc : Int32) (PSH : PS3 Z) (A_t : Arv Z h0 ta k_ta .byte (8 : Int32) [b0, b1, b2, b3, b4, b5, b6, b7] (.int (0 : Int32))) (z_ta : Z.heap.size ≤ ta) :
    Con l Z [("java/lang/String", 7)] [ta] (⟨"java/lang/StringUTF16", "putChar", "([BII)V"⟩ : MethodName) jdk_52_method_4_code 3 none [] (⟨0, 0, 0, 0⟩ : Room) #[(.ref ta), (.int (3 : Int32)), (.int cc)] h0 (fun v h' => v = none ∧ Keep h0 h' [ta] ∧ Arv Z h' ta k_ta .byte (8 : Int32) [b0, b1, b2, b3, b4, b5, (.int (StrChars.lo8 cc)), (.int (StrChars.hi8 cc))] (.int (0 : Int32))) := by
  refine Con.mk (plainFor_of_name pn_1) hEL hE0 (allS A_t.lt all0) ?_
  intro p e s m below meth c T0 hby hml hret hnm W0
  rw [(show entryFrame m #[(.ref ta), (.int (3 : Int32)), (.int cc)] 3 = mkF m 0 #[.val (.ref ta), .val (.int (3 : Int32)), .val (.int cc)] [] from by first | (simp [entryFrame, mkF, argsToLocals, Value.category]; done) | rfl)]
  refine W0.gets (host := "") (Or.inl (wd58 hw)) Via.refl (PSH.ad.ext W0.old) (hb hby dc4_0) ?_
  intro T461 W462
  refine Go.by (fun t9_ q9_ => XS.ifYes W462.here W462.hx rfl (pc0 := 3) (pc' := 28) rfl (hb hby dc4_3) rfl ((if0 _ _).trans (feq (by decide)).2) (by decide) (by decide) q9_) ?_
  refine Go.by (fun t9_ q9_ => XS.iloadN W462.here W462.hx rfl (hb hby dc4_28) rfl (XS.iconst W462.here W462.hx rfl (hb hby dc4_29) (XS.ishl W462.here W462.hx rfl (hb hby dc4_30) rfl (XS.istoreN W462.here W462.hx rfl (hb hby dc4_31) rfl (l' := #[.val (.ref ta), .val (.int ((3 : Int32) <<< ((1 : Int32) &&& 31))), .val (.int cc)]) rfl q9_)))) ?_
  show Go _ _ _ _ _ _ _ _ _ (T461.setTop (mkF m 32 #[.val (.ref ta), .val (.int ((3 : Int32) <<< ((1 : Int32) &&& 31))), .val (.int cc)] []))
  rw [show ((3 : Int32) <<< ((1 : Int32) &&& 31)) = (6 : Int32) from by decide]
  refine Go.by (fun t9_ q9_ => XS.aloadN W462.here W462.hx rfl (hb hby dc4_32) rfl rfl (XS.iloadN W462.here W462.hx rfl (hb hby dc4_33) rfl (XS.iinc W462.here W462.hx rfl (hb hby dc4_34) rfl (l' := #[.val (.ref ta), .val (.int ((6 : Int32) + (1 : Int32))), .val (.int cc)]) rfl q9_))) ?_
  show Go _ _ _ _ _ _ _ _ _ (T461.setTop (mkF m 37 #[.val (.ref ta), .val (.int (7 : Int32)), .val (.int cc)] [(.int (6 : Int32)), (.ref ta)]))
  refine Go.by (fun t9_ q9_ => XS.iloadN W462.here W462.hx rfl (hb hby dc4_37) rfl q9_) ?_
  show Go _ _ _ _ _ _ _ _ _ (T461.setTop (mkF m 38 #[.val (.ref ta), .val (.int (7 : Int32)), .val (.int cc)] [(.int cc), (.int (6 : Int32)), (.ref ta)]))
  refine W462.gets (host := "") (Or.inl (wd59 hw)) Via.refl (PSH.hi.ext W462.old) (hb hby dc4_38) ?_
  intro T463 W464
  refine Go.by (fun t9_ q9_ => XS.ishr W464.here W464.hx rfl (hb hby dc4_41) rfl (XS.i2b W464.here W464.hx rfl (hb hby dc4_42) rfl q9_)) ?_
  show Go _ _ _ _ _ _ _ _ _ (T463.setTop (mkF m 43 #[.val (.ref ta), .val (.int (7 : Int32)), .val (.int cc)] [(.int ((cc >>> ((0 : Int32) &&& 31)).toInt8.toInt32)), (.int (6 : Int32)), (.ref ta)]))
  refine W464.bast A_t ⟨by decide, by decide⟩ (i := 6) rfl (by simp) (v' := (StrChars.lo8 cc)) (by rw [StrChars.shr0]; simp [nar, StrChars.lo8, lo8_lo8]) z_ta (List.mem_of_getElem? (i := 0) rfl) (hb hby dc4_43) ?_
  intro T465 h466 W467 Wr468 V469_ta'
  have V469_ta : Arv Z h466 ta k_ta .byte (8 : Int32) [b0, b1, b2, b3, b4, b5, (.int (StrChars.lo8 cc)), b7] (.int (0 : Int32)) := V469_ta'
  refine Go.by (fun t9_ q9_ => XS.aloadN W467.here W467.hx rfl (hb hby dc4_44) rfl rfl (XS.iloadN W467.here W467.hx rfl (hb hby dc4_45) rfl (XS.iloadN W467.here W467.hx rfl (hb hby dc4_46) rfl q9_))) ?_
  show Go _ _ _ _ _ _ _ _ _ (T465.setTop (mkF m 47 #[.val (.ref ta), .val (.int (7 : Int32)), .val (.int cc)] [(.int cc), (.int (7 : Int32)), (.ref ta)]))
  refine W467.gets (host := "") (Or.inl (wd60 hw)) Via.refl (PSH.lo.ext W467.old) (hb hby dc4_47) ?_
  intro T470 W471
  refine Go.by (fun t9_ q9_ => XS.ishr W471.here W471.hx rfl (hb hby dc4_50) rfl (XS.i2b W471.here W471.hx rfl (hb hby dc4_51) rfl q9_)) ?_
  show Go _ _ _ _ _ _ _ _ _ (T470.setTop (mkF m 52 #[.val (.ref ta), .val (.int (7 : Int32)), .val (.int cc)] [(.int ((cc >>> ((8 : Int32) &&& 31)).toInt8.toInt32)), (.int (7 : Int32)), (.ref ta)]))
  refine W471.bast V469_ta ⟨by decide, by decide⟩ (i := 7) rfl (by simp) (v' := (StrChars.hi8 cc)) (by simp [nar, StrChars.hi8, StrChars.lo8, lo8_lo8]) z_ta (List.mem_of_getElem? (i := 0) rfl) (hb hby dc4_52) ?_
  intro T472 h473 W474 Wr475 V476_ta'
  have V476_ta : Arv Z h473 ta k_ta .byte (8 : Int32) [b0, b1, b2, b3, b4, b5, (.int (StrChars.lo8 cc)), (.int (StrChars.hi8 cc))] (.int (0 : Int32)) := V476_ta'
  show Go _ _ _ _ _ _ _ _ _ (T472.setTop (mkF m 53 #[.val (.ref ta), .val (.int (7 : Int32)), .val (.int cc)] []))
  exact W474.retV (by decide) (by decide) hret (hb hby dc4_53) ⟨rfl, (((Keep.refl h0 [ta]).wr Wr468 (Or.inl (List.mem_of_getElem? (i := 0) rfl))).wr Wr475 (Or.inl (List.mem_of_getElem? (i := 0) rfl))), V476_ta⟩
theorem c_get4_3 (l : Launch) (Z : State) (a0 : Array Value) (hw : HW Z a0) (hEL : EW Z a0 [("java/lang/String", 7)]) (h0 : Heap) (hE0 : Ext Z.heap h0) (ta : Addr) (k_ta : ClassId) (vs : List Value) (uu vv cc : Int32) (PSH : PS3 Z) (A_t : Arv Z h0 ta k_ta .byte (8 : Int32) vs (.int (0 : Int32))) (hu : vs.getD 6 (.int (0 : Int32)) = .int uu) (hv : vs.getD 7 (.int (0 : Int32)) = .int vv) (hp : StrChars.pairCh uu vv = cc) (r_c : ¬ cc < 0 ∧ ¬ (65535 : Int32) < cc) :
    Con l Z [("java/lang/String", 7)] [] (⟨"java/lang/StringUTF16", "getChar", "([BI)C"⟩ : MethodName) jdk_52_method_5_code 2 (some .char) [] (⟨0, 0, 0, 0⟩ : Room) #[(.ref ta), (.int (3 : Int32))] h0 (fun v h' => v = (some (.int cc)) ∧ h' = h0) := by
  refine Con.mk (plainFor_of_name pn_1) hEL hE0 (fun x hx => by cases hx) ?_
  intro p e s m below meth c T0 hby hml hret hnm W0
  rw [(show entryFrame m #[(.ref ta), (.int (3 : Int32))] 2 = mkF m 0 #[.val (.ref ta), .val (.int (3 : Int32))] [] from by first | (simp [entryFrame, mkF, argsToLocals, Value.category]; done) | rfl)]
  refine W0.gets (host := "") (Or.inl (wd58 hw)) Via.refl (PSH.ad.ext W0.old) (hb hby dc5_0) ?_
  intro T477 W478
  refine Go.by (fun t9_ q9_ => XS.ifYes W478.here W478.hx rfl (pc0 := 3) (pc' := 28) rfl (hb hby dc5_3) rfl ((if0 _ _).trans (feq (by decide)).2) (by decide) (by decide) q9_) ?_
  refine Go.by (fun t9_ q9_ => XS.iloadN W478.here W478.hx rfl (hb hby dc5_28) rfl (XS.iconst W478.here W478.hx rfl (hb hby dc5_29) (XS.ishl W478.here W478.hx rfl (hb hby dc5_30) rfl (XS.istoreN W478.here W478.hx rfl (hb hby dc5_31) rfl (l' := #[.val (.ref ta), .val (.int ((3 : Int32) <<< ((1 : Int32) &&& 31)))]) rfl q9_)))) ?_
  show Go _ _ _ _ _ _ _ _ _ (T477.setTop (mkF m 32 #[.val (.ref ta), .val (.int ((3 : Int32) <<< ((1 : Int32) &&& 31)))] []))
  rw [show ((3 : Int32) <<< ((1 : Int32) &&& 31)) = (6 : Int32) from by decide]
  refine Go.by (fun t9_ q9_ => XS.aloadN W478.here W478.hx rfl (hb hby dc5_32) rfl rfl (XS.iloadN W478.here W478.hx rfl (hb hby dc5_33) rfl (XS.iinc W478.here W478.hx rfl (hb hby dc5_34) rfl (l' := #[.val (.ref ta), .val (.int ((6 : Int32) + (1 : Int32)))]) rfl q9_))) ?_
  show Go _ _ _ _ _ _ _ _ _ (T477.setTop (mkF m 37 #[.val (.ref ta), .val (.int (7 : Int32))] [(.int (6 : Int32)), (.ref ta)]))
  refine W478.bald A_t ⟨by decide, by decide⟩ (v := (.int uu)) hu (hb hby dc5_37) ?_
  refine Go.by (fun t9_ q9_ => XS.sipush W478.here W478.hx rfl (hb hby dc5_38) (XS.iand W478.here W478.hx rfl (hb hby dc5_41) rfl q9_)) ?_
  show Go _ _ _ _ _ _ _ _ _ (T477.setTop (mkF m 42 #[.val (.ref ta), .val (.int (7 : Int32))] [(.int (uu &&& (255 : Int32)))]))
  refine W478.gets (host := "") (Or.inl (wd59 hw)) Via.refl (PSH.hi.ext W478.old) (hb hby dc5_42) ?_
  intro T479 W480
  refine Go.by (fun t9_ q9_ => XS.ishl W480.here W480.hx rfl (hb hby dc5_45) rfl (XS.aloadN W480.here W480.hx rfl (hb hby dc5_46) rfl rfl (XS.iloadN W480.here W480.hx rfl (hb hby dc5_47) rfl q9_))) ?_
  show Go _ _ _ _ _ _ _ _ _ (T479.setTop (mkF m 48 #[.val (.ref ta), .val (.int (7 : Int32))] [(.int (7 : Int32)), (.ref ta), (.int ((uu &&& (255 : Int32)) <<< ((0 : Int32) &&& 31)))]))
  refine W480.bald A_t ⟨by decide, by decide⟩ (v := (.int vv)) hv (hb hby dc5_48) ?_
  refine Go.by (fun t9_ q9_ => XS.sipush W480.here W480.hx rfl (hb hby dc5_49) (XS.iand W480.here W480.hx rfl (hb hby dc5_52) rfl q9_)) ?_
  show Go _ _ _ _ _ _ _ _ _ (T479.setTop (mkF m 53 #[.val (.ref ta), .val (.int (7 : Int32))] [(.int (vv &&& (255 : Int32))), (.int ((uu &&& (255 : Int32)) <<< ((0 : Int32) &&& 31)))]))
  refine W480.gets (host := "") (Or.inl (wd60 hw)) Via.refl (PSH.lo.ext W480.old) (hb hby dc5_53) ?_
  intro T481 W482
  refine Go.by (fun t9_ q9_ => XS.ishl W482.here W482.hx rfl (hb hby dc5_56) rfl (XS.ior W482.here W482.hx rfl (hb hby dc5_57) rfl (XS.i2c W482.here W482.hx rfl (hb hby dc5_58) rfl q9_))) ?_
  show Go _ _ _ _ _ _ _ _ _ (T481.setTop (mkF m 59 #[.val (.ref ta), .val (.int (7 : Int32))] [(.int ((((uu &&& (255 : Int32)) <<< ((0 : Int32) &&& 31)) ||| ((vv &&& (255 : Int32)) <<< ((8 : Int32) &&& 31))).toUInt32.toUInt16.toUInt32.toInt32))]))
  exact W482.retN (z' := cc) (by decide) (by decide) hret (by simp) (hb hby dc5_59) (by show nar .char (StrChars.pairCh uu vv) = cc; rw [hp]; exact nar_id r_c) ⟨rfl, rfl⟩
theorem c_tb4 (l : Launch) (Z : State) (a0 : Array Value) (hw : HW Z a0) (hEL : EW Z a0 [("java/lang/String", 7)]) (h0 : Heap) (hE0 : Ext Z.heap h0) (ba : Addr) (kb : ClassId) (c0 c1 c2 c3 : Int32) (PSH : PS3 Z) (A_b : Arv Z h0 ba kb .char (4 : Int32) [(.int c0), (.int c1), (.int c2), (.int c3)] (.int (0 : Int32))) :
    Con l Z [("java/lang/String", 7)] [] (⟨"java/lang/StringUTF16", "toBytes", "([CII)[B"⟩ : MethodName) jdk_52_method_14_code 5 (some (.array .byte)) [] (⟨2, 1, 8, 24⟩ : Room) #[(.ref ba), (.int (0 : Int32)), (.int (4 : Int32))] h0 (fun v h' => ∃ ta kt, v = some (.ref ta) ∧ Ext h0 h' ∧ Exa Z h' ta "[B" ∧ Arv Z h' ta kt .byte (8 : Int32) [(.int (StrChars.lo8 c0)), (.int (StrChars.hi8 c0)), (.int (StrChars.lo8 c1)), (.int (StrChars.hi8 c1)), (.int (StrChars.lo8 c2)), (.int (StrChars.hi8 c2)), (.int (StrChars.lo8 c3)), (.int (StrChars.hi8 c3))] (.int (0 : Int32))) := by
  refine Con.mk (plainFor_of_name pn_1) hEL hE0 (fun x hx => by cases hx) ?_
  intro p e s m below meth c T0 hby hml hret hnm W0
  rw [(show entryFrame m #[(.ref ba), (.int (0 : Int32)), (.int (4 : Int32))] 5 = mkF m 0 #[.val (.ref ba), .val (.int (0 : Int32)), .val (.int (4 : Int32)), .unset, .unset] [] from by first | (simp [entryFrame, mkF, argsToLocals, Value.category]; done) | rfl)]
  refine Go.by (fun t9_ q9_ => XS.iloadN W0.here W0.hx rfl (hb hby dc6_0) rfl q9_) ?_
  show Go _ _ _ _ _ _ _ _ _ (T0.setTop (mkF m 1 #[.val (.ref ba), .val (.int (0 : Int32)), .val (.int (4 : Int32)), .unset, .unset] [(.int (4 : Int32))]))
  refine W0.callS (y := (⟨"java/lang/StringUTF16", "newBytesFor", "(I)[B"⟩ : MethodName)) (wd48 hw) (wd49 hw) (wd37 hw) (wd50 hw) (by decide) (c_nbf4 l Z a0 hw hEL h0 hE0) all0 (by decide) (by decide) (k' := 1) (n' := 8) rfl rfl (by decide) (by decide) (by rw [hml]; rfl) (argsL := [(.int (4 : Int32))]) (rest := []) (lenOf pd_2 rfl) rfl rfl (Wt := 0) (Nat.le_of_eq rfl) (hb hby dc6_1) ?_
  intro v_ T483 h485 W484 hq_
  obtain ⟨ta, k_ta, rfl, X1, z_ta, g_ta, E_ta, A_ta⟩ := hq_
  have W486 := W484.safe0 (wd22 hw) A_ta (by decide)
  refine Go.by (fun t9_ q9_ => XS.astoreN W486.here W486.hx rfl (hb hby dc6_4) rfl rfl (l' := #[.val (.ref ba), .val (.int (0 : Int32)), .val (.int (4 : Int32)), .val (.ref ta), .unset]) rfl (XS.iconst W486.here W486.hx rfl (hb hby dc6_5) (XS.istore W486.here W486.hx rfl (hb hby dc6_6) rfl (l' := #[.val (.ref ba), .val (.int (0 : Int32)), .val (.int (4 : Int32)), .val (.ref ta), .val (.int (0 : Int32))]) rfl (XS.iload W486.here W486.hx rfl (hb hby dc6_8) rfl (XS.iloadN W486.here W486.hx rfl (hb hby dc6_10) rfl q9_))))) ?_
  refine Go.by (fun t9_ q9_ => XS.icmpNo W486.here W486.hx rfl (hb hby dc6_11) rfl (tlt (by decide)).2.1 q9_) ?_
  refine Go.by (fun t9_ q9_ => XS.aloadN W486.here W486.hx rfl (hb hby dc6_14) rfl rfl (XS.iload W486.here W486.hx rfl (hb hby dc6_15) rfl (XS.aloadN W486.here W486.hx rfl (hb hby dc6_17) rfl rfl (XS.iloadN W486.here W486.hx rfl (hb hby dc6_18) rfl q9_)))) ?_
  show Go _ _ _ _ _ _ _ _ _ (T483.setTop (mkF m 19 #[.val (.ref ba), .val (.int (0 : Int32)), .val (.int (4 : Int32)), .val (.ref ta), .val (.int (0 : Int32))] [(.int (0 : Int32)), (.ref ba), (.int (0 : Int32)), (.ref ta)]))
  refine W486.cald (A_b.ext X1) ⟨by decide, by decide⟩ (v := (.int c0)) rfl (hb hby dc6_19) ?_
  show Go _ _ _ _ _ _ _ _ _ (T483.setTop (mkF m 20 #[.val (.ref ba), .val (.int (0 : Int32)), .val (.int (4 : Int32)), .val (.ref ta), .val (.int (0 : Int32))] [(.int c0), (.int (0 : Int32)), (.ref ta)]))
  refine W486.callS (y := (⟨"java/lang/StringUTF16", "putChar", "([BII)V"⟩ : MethodName)) (wd55 hw) (wd56 hw) (wd37 hw) (wd57 hw) (by decide) (c_put4_0 l Z a0 hw hEL h485 W486.old ta k_ta (.int (0 : Int32)) (.int (0 : Int32)) (.int (0 : Int32)) (.int (0 : Int32)) (.int (0 : Int32)) (.int (0 : Int32)) (.int (0 : Int32)) (.int (0 : Int32)) c0 PSH A_ta z_ta) (allS (List.mem_of_getElem? (i := 0) rfl) all0) (by decide) (by decide) (k' := 1) (n' := 8) rfl rfl (by decide) (by decide) (by rw [hml]; rfl) (argsL := [(.ref ta), (.int (0 : Int32)), (.int c0)]) (rest := []) (lenOf pd_3 rfl) rfl rfl (Wt := 0) (Nat.le_of_eq rfl) (hb hby dc6_20) ?_
  intro v_ T487 h489 W488 hq_
  obtain ⟨rfl, K0, A0_ta⟩ := hq_
  refine Go.by (fun t9_ q9_ => XS.iinc W488.here W488.hx rfl (hb hby dc6_23) rfl (l' := #[.val (.ref ba), .val (.int ((0 : Int32) + (1 : Int32))), .val (.int (4 : Int32)), .val (.ref ta), .val (.int (0 : Int32))]) rfl q9_) ?_
  show Go _ _ _ _ _ _ _ _ _ (T487.setTop (mkF m 26 #[.val (.ref ba), .val (.int (1 : Int32)), .val (.int (4 : Int32)), .val (.ref ta), .val (.int (0 : Int32))] []))
  refine Go.by (fun t9_ q9_ => XS.iinc W488.here W488.hx rfl (hb hby dc6_26) rfl (l' := #[.val (.ref ba), .val (.int (1 : Int32)), .val (.int (4 : Int32)), .val (.ref ta), .val (.int ((0 : Int32) + (1 : Int32)))]) rfl q9_) ?_
  show Go _ _ _ _ _ _ _ _ _ (T487.setTop (mkF m 29 #[.val (.ref ba), .val (.int (1 : Int32)), .val (.int (4 : Int32)), .val (.ref ta), .val (.int (1 : Int32))] []))
  refine Go.by (fun t9_ q9_ => XS.goto W488.here W488.hx rfl (pc0 := 29) (pc' := 8) rfl (hb hby dc6_29) (by decide) (by decide) (XS.iload W488.here W488.hx rfl (hb hby dc6_8) rfl (XS.iloadN W488.here W488.hx rfl (hb hby dc6_10) rfl q9_))) ?_
  refine Go.by (fun t9_ q9_ => XS.icmpNo W488.here W488.hx rfl (hb hby dc6_11) rfl (tlt (by decide)).2.1 q9_) ?_
  refine Go.by (fun t9_ q9_ => XS.aloadN W488.here W488.hx rfl (hb hby dc6_14) rfl rfl (XS.iload W488.here W488.hx rfl (hb hby dc6_15) rfl (XS.aloadN W488.here W488.hx rfl (hb hby dc6_17) rfl rfl (XS.iloadN W488.here W488.hx rfl (hb hby dc6_18) rfl q9_)))) ?_
  have X490 : Ext h0 h489 := (Ext.keep' X1 K0 (allS (Nat.le_of_eq g_ta) all0))
  show Go _ _ _ _ _ _ _ _ _ (T487.setTop (mkF m 19 #[.val (.ref ba), .val (.int (1 : Int32)), .val (.int (4 : Int32)), .val (.ref ta), .val (.int (1 : Int32))] [(.int (1 : Int32)), (.ref ba), (.int (1 : Int32)), (.ref ta)]))
  refine W488.cald (A_b.ext X490) ⟨by decide, by decide⟩ (v := (.int c1)) rfl (hb hby dc6_19) ?_
  show Go _ _ _ _ _ _ _ _ _ (T487.setTop (mkF m 20 #[.val (.ref ba), .val (.int (1 : Int32)), .val (.int (4 : Int32)), .val (.ref ta), .val (.int (1 : Int32))] [(.int c1), (.int (1 : Int32)), (.ref ta)]))
  refine W488.callS (y := (⟨"java/lang/StringUTF16", "putChar", "([BII)V"⟩ : MethodName)) (wd55 hw) (wd56 hw) (wd37 hw) (wd57 hw) (by decide) (c_put4_1 l Z a0 hw hEL h489 W488.old ta k_ta (.int (StrChars.lo8 c0)) (.int (StrChars.hi8 c0)) (.int (0 : Int32)) (.int (0 : Int32)) (.int (0 : Int32)) (.int (0 : Int32)) (.int (0 : Int32)) (.int (0 : Int32)) c1 PSH A0_ta z_ta) (allS (List.mem_of_getElem? (i := 0) rfl) all0) (by decide) (by decide) (k' := 1) (n' := 8) rfl rfl (by decide) (by decide) (by rw [hml]; rfl) (argsL := [(.ref ta), (.int (1 : Int32)), (.int c1)]) (rest := []) (lenOf pd_3 rfl) rfl rfl (Wt := 0) (Nat.le_of_eq rfl) (hb hby dc6_20) ?_
  intro v_ T491 h493 W492 hq_
  obtain ⟨rfl, K1, A1_ta⟩ := hq_
  refine Go.by (fun t9_ q9_ => XS.iinc W492.here W492.hx rfl (hb hby dc6_23) rfl (l' := #[.val (.ref ba), .val (.int ((1 : Int32) + (1 : Int32))), .val (.int (4 : Int32)), .val (.ref ta), .val (.int (1 : Int32))]) rfl q9_) ?_
  show Go _ _ _ _ _ _ _ _ _ (T491.setTop (mkF m 26 #[.val (.ref ba), .val (.int (2 : Int32)), .val (.int (4 : Int32)), .val (.ref ta), .val (.int (1 : Int32))] []))
  refine Go.by (fun t9_ q9_ => XS.iinc W492.here W492.hx rfl (hb hby dc6_26) rfl (l' := #[.val (.ref ba), .val (.int (2 : Int32)), .val (.int (4 : Int32)), .val (.ref ta), .val (.int ((1 : Int32) + (1 : Int32)))]) rfl q9_) ?_
  show Go _ _ _ _ _ _ _ _ _ (T491.setTop (mkF m 29 #[.val (.ref ba), .val (.int (2 : Int32)), .val (.int (4 : Int32)), .val (.ref ta), .val (.int (2 : Int32))] []))
  refine Go.by (fun t9_ q9_ => XS.goto W492.here W492.hx rfl (pc0 := 29) (pc' := 8) rfl (hb hby dc6_29) (by decide) (by decide) (XS.iload W492.here W492.hx rfl (hb hby dc6_8) rfl (XS.iloadN W492.here W492.hx rfl (hb hby dc6_10) rfl q9_))) ?_
  refine Go.by (fun t9_ q9_ => XS.icmpNo W492.here W492.hx rfl (hb hby dc6_11) rfl (tlt (by decide)).2.1 q9_) ?_
  refine Go.by (fun t9_ q9_ => XS.aloadN W492.here W492.hx rfl (hb hby dc6_14) rfl rfl (XS.iload W492.here W492.hx rfl (hb hby dc6_15) rfl (XS.aloadN W492.here W492.hx rfl (hb hby dc6_17) rfl rfl (XS.iloadN W492.here W492.hx rfl (hb hby dc6_18) rfl q9_)))) ?_
  have X494 : Ext h0 h493 := (Ext.keep' X490 K1 (allS (Nat.le_of_eq g_ta) all0))
  show Go _ _ _ _ _ _ _ _ _ (T491.setTop (mkF m 19 #[.val (.ref ba), .val (.int (2 : Int32)), .val (.int (4 : Int32)), .val (.ref ta), .val (.int (2 : Int32))] [(.int (2 : Int32)), (.ref ba), (.int (2 : Int32)), (.ref ta)]))
  refine W492.cald (A_b.ext X494) ⟨by decide, by decide⟩ (v := (.int c2)) rfl (hb hby dc6_19) ?_
  show Go _ _ _ _ _ _ _ _ _ (T491.setTop (mkF m 20 #[.val (.ref ba), .val (.int (2 : Int32)), .val (.int (4 : Int32)), .val (.ref ta), .val (.int (2 : Int32))] [(.int c2), (.int (2 : Int32)), (.ref ta)]))
  refine W492.callS (y := (⟨"java/lang/StringUTF16", "putChar", "([BII)V"⟩ : MethodName)) (wd55 hw) (wd56 hw) (wd37 hw) (wd57 hw) (by decide) (c_put4_2 l Z a0 hw hEL h493 W492.old ta k_ta (.int (StrChars.lo8 c0)) (.int (StrChars.hi8 c0)) (.int (StrChars.lo8 c1)) (.int (StrChars.hi8 c1)) (.int (0 : Int32)) (.int (0 : Int32)) (.int (0 : Int32)) (.int (0 : Int32)) c2 PSH A1_ta z_ta) (allS (List.mem_of_getElem? (i := 0) rfl) all0) (by decide) (by decide) (k' := 1) (n' := 8) rfl rfl (by decide) (by decide) (by rw [hml]; rfl) (argsL := [(.ref ta), (.int (2 : Int32)), (.int c2)]) (rest := []) (lenOf pd_3 rfl) rfl rfl (Wt := 0) (Nat.le_of_eq rfl) (hb hby dc6_20) ?_
  intro v_ T495 h497 W496 hq_
  obtain ⟨rfl, K2, A2_ta⟩ := hq_
  refine Go.by (fun t9_ q9_ => XS.iinc W496.here W496.hx rfl (hb hby dc6_23) rfl (l' := #[.val (.ref ba), .val (.int ((2 : Int32) + (1 : Int32))), .val (.int (4 : Int32)), .val (.ref ta), .val (.int (2 : Int32))]) rfl q9_) ?_
  show Go _ _ _ _ _ _ _ _ _ (T495.setTop (mkF m 26 #[.val (.ref ba), .val (.int (3 : Int32)), .val (.int (4 : Int32)), .val (.ref ta), .val (.int (2 : Int32))] []))
  refine Go.by (fun t9_ q9_ => XS.iinc W496.here W496.hx rfl (hb hby dc6_26) rfl (l' := #[.val (.ref ba), .val (.int (3 : Int32)), .val (.int (4 : Int32)), .val (.ref ta), .val (.int ((2 : Int32) + (1 : Int32)))]) rfl q9_) ?_
  show Go _ _ _ _ _ _ _ _ _ (T495.setTop (mkF m 29 #[.val (.ref ba), .val (.int (3 : Int32)), .val (.int (4 : Int32)), .val (.ref ta), .val (.int (3 : Int32))] []))
  refine Go.by (fun t9_ q9_ => XS.goto W496.here W496.hx rfl (pc0 := 29) (pc' := 8) rfl (hb hby dc6_29) (by decide) (by decide) (XS.iload W496.here W496.hx rfl (hb hby dc6_8) rfl (XS.iloadN W496.here W496.hx rfl (hb hby dc6_10) rfl q9_))) ?_
  refine Go.by (fun t9_ q9_ => XS.icmpNo W496.here W496.hx rfl (hb hby dc6_11) rfl (tlt (by decide)).2.1 q9_) ?_
  refine Go.by (fun t9_ q9_ => XS.aloadN W496.here W496.hx rfl (hb hby dc6_14) rfl rfl (XS.iload W496.here W496.hx rfl (hb hby dc6_15) rfl (XS.aloadN W496.here W496.hx rfl (hb hby dc6_17) rfl rfl (XS.iloadN W496.here W496.hx rfl (hb hby dc6_18) rfl q9_)))) ?_
  have X498 : Ext h0 h497 := (Ext.keep' X494 K2 (allS (Nat.le_of_eq g_ta) all0))
  show Go _ _ _ _ _ _ _ _ _ (T495.setTop (mkF m 19 #[.val (.ref ba), .val (.int (3 : Int32)), .val (.int (4 : Int32)), .val (.ref ta), .val (.int (3 : Int32))] [(.int (3 : Int32)), (.ref ba), (.int (3 : Int32)), (.ref ta)]))
  refine W496.cald (A_b.ext X498) ⟨by decide, by decide⟩ (v := (.int c3)) rfl (hb hby dc6_19) ?_
  show Go _ _ _ _ _ _ _ _ _ (T495.setTop (mkF m 20 #[.val (.ref ba), .val (.int (3 : Int32)), .val (.int (4 : Int32)), .val (.ref ta), .val (.int (3 : Int32))] [(.int c3), (.int (3 : Int32)), (.ref ta)]))
  refine W496.callS (y := (⟨"java/lang/StringUTF16", "putChar", "([BII)V"⟩ : MethodName)) (wd55 hw) (wd56 hw) (wd37 hw) (wd57 hw) (by decide) (c_put4_3 l Z a0 hw hEL h497 W496.old ta k_ta (.int (StrChars.lo8 c0)) (.int (StrChars.hi8 c0)) (.int (StrChars.lo8 c1)) (.int (StrChars.hi8 c1)) (.int (StrChars.lo8 c2)) (.int (StrChars.hi8 c2)) (.int (0 : Int32)) (.int (0 : Int32)) c3 PSH A2_ta z_ta) (allS (List.mem_of_getElem? (i := 0) rfl) all0) (by decide) (by decide) (k' := 1) (n' := 8) rfl rfl (by decide) (by decide) (by rw [hml]; rfl) (argsL := [(.ref ta), (.int (3 : Int32)), (.int c3)]) (rest := []) (lenOf pd_3 rfl) rfl rfl (Wt := 0) (Nat.le_of_eq rfl) (hb hby dc6_20) ?_
  intro v_ T499 h501 W500 hq_
  obtain ⟨rfl, K3, A3_ta⟩ := hq_
  refine Go.by (fun t9_ q9_ => XS.iinc W500.here W500.hx rfl (hb hby dc6_23) rfl (l' := #[.val (.ref ba), .val (.int ((3 : Int32) + (1 : Int32))), .val (.int (4 : Int32)), .val (.ref ta), .val (.int (3 : Int32))]) rfl q9_) ?_
  show Go _ _ _ _ _ _ _ _ _ (T499.setTop (mkF m 26 #[.val (.ref ba), .val (.int (4 : Int32)), .val (.int (4 : Int32)), .val (.ref ta), .val (.int (3 : Int32))] []))
  refine Go.by (fun t9_ q9_ => XS.iinc W500.here W500.hx rfl (hb hby dc6_26) rfl (l' := #[.val (.ref ba), .val (.int (4 : Int32)), .val (.int (4 : Int32)), .val (.ref ta), .val (.int ((3 : Int32) + (1 : Int32)))]) rfl q9_) ?_
  show Go _ _ _ _ _ _ _ _ _ (T499.setTop (mkF m 29 #[.val (.ref ba), .val (.int (4 : Int32)), .val (.int (4 : Int32)), .val (.ref ta), .val (.int (4 : Int32))] []))
  refine Go.by (fun t9_ q9_ => XS.goto W500.here W500.hx rfl (pc0 := 29) (pc' := 8) rfl (hb hby dc6_29) (by decide) (by decide) (XS.iload W500.here W500.hx rfl (hb hby dc6_8) rfl (XS.iloadN W500.here W500.hx rfl (hb hby dc6_10) rfl q9_))) ?_
  refine Go.by (fun t9_ q9_ => XS.icmpYes W500.here W500.hx rfl (pc0 := 11) (pc' := 32) rfl (hb hby dc6_11) rfl (flt (by decide)).2.1 (by decide) (by decide) q9_) ?_
  refine Go.by (fun t9_ q9_ => XS.aloadN W500.here W500.hx rfl (hb hby dc6_32) rfl rfl q9_) ?_
  have X502 : Ext h0 h501 := (Ext.keep' X498 K3 (allS (Nat.le_of_eq g_ta) all0))
  show Go _ _ _ _ _ _ _ _ _ (T499.setTop (mkF m 33 #[.val (.ref ba), .val (.int (4 : Int32)), .val (.int (4 : Int32)), .val (.ref ta), .val (.int (4 : Int32))] [(.ref ta)]))
  exact W500.retA (by decide) (by decide) hret rfl rfl (hb hby dc6_33) ⟨ta, k_ta, rfl, X502, ((((E_ta.keep K0).keep K1).keep K2).keep K3), A3_ta⟩
theorem c_cm5_4 (l : Launch) (Z : State) (a0 : Array Value) (hw : HW Z a0) (hEL : EW Z a0 [("java/lang/String", 7)]) (h0 : Heap) (hE0 : Ext Z.heap h0) (ba da : Addr) (kb k_da : ClassId) (c0 c1 c2 c3 : Int32) (A_b : Arv Z h0 ba kb .char (4 : Int32) [(.int c0), (.int c1), (.int c2), (.int c3)] (.int (0 : Int32))) (A_d : Arv Z h0 da k_da .byte (4 : Int32) [(.int (0 : Int32)), (.int (0 : Int32)), (.int (0 : Int32)), (.int (0 : Int32))] (.int (0 : Int32))) (z_da : Z.heap.size ≤ da) (nbd : ba ≠ da) (hbig : (255 : Int32) < c0 ∨ (255 : Int32) < c1 ∨ (255 : Int32) < c2 ∨ (255 : Int32) < c3) :
    Con l Z [("java/lang/String", 7)] [da] (⟨"java/lang/StringUTF16", "compress", "([CI[BII)I"⟩ : MethodName) jdk_52_method_21_code 7 (some .int) [] (⟨0, 0, 0, 0⟩ : Room) #[(.ref ba), (.int (0 : Int32)), (.ref da), (.int (0 : Int32)), (.int (4 : Int32))] h0 (fun v h' => ∃ kk : Int32, v = some (.int kk) ∧ Keep h0 h' [da] ∧ (kk = (0 : Int32) ∧ (255 : Int32) < c0 ∨ kk = (1 : Int32) ∧ (255 : Int32) < c1 ∨ kk = (2 : Int32) ∧ (255 : Int32) < c2 ∨ kk = (3 : Int32) ∧ (255 : Int32) < c3)) := by
  refine Con.mk (plainFor_of_name pn_1) hEL hE0 (allS A_d.lt all0) ?_
  intro p e s m below meth c T0 hby hml hret hnm W0
  rw [(show entryFrame m #[(.ref ba), (.int (0 : Int32)), (.ref da), (.int (0 : Int32)), (.int (4 : Int32))] 7 = mkF m 0 #[.val (.ref ba), .val (.int (0 : Int32)), .val (.ref da), .val (.int (0 : Int32)), .val (.int (4 : Int32)), .unset, .unset] [] from by first | (simp [entryFrame, mkF, argsToLocals, Value.category]; done) | rfl)]
  refine Go.by (fun t9_ q9_ => XS.iconst W0.here W0.hx rfl (hb hby dc7_0) (XS.istore W0.here W0.hx rfl (hb hby dc7_1) rfl (l' := #[.val (.ref ba), .val (.int (0 : Int32)), .val (.ref da), .val (.int (0 : Int32)), .val (.int (4 : Int32)), .val (.int (0 : Int32)), .unset]) rfl (XS.iload W0.here W0.hx rfl (hb hby dc7_3) rfl (XS.iload W0.here W0.hx rfl (hb hby dc7_5) rfl q9_)))) ?_
  refine Go.by (fun t9_ q9_ => XS.icmpNo W0.here W0.hx rfl (hb hby dc7_7) rfl (tlt (by decide)).2.1 q9_) ?_
  refine Go.by (fun t9_ q9_ => XS.aloadN W0.here W0.hx rfl (hb hby dc7_10) rfl rfl (XS.iloadN W0.here W0.hx rfl (hb hby dc7_11) rfl q9_)) ?_
  show Go _ _ _ _ _ _ _ _ _ (T0.setTop (mkF m 12 #[.val (.ref ba), .val (.int (0 : Int32)), .val (.ref da), .val (.int (0 : Int32)), .val (.int (4 : Int32)), .val (.int (0 : Int32)), .unset] [(.int (0 : Int32)), (.ref ba)]))
  refine W0.cald A_b ⟨by decide, by decide⟩ (v := (.int c0)) rfl (hb hby dc7_12) ?_
  refine Go.by (fun t9_ q9_ => XS.istore W0.here W0.hx rfl (hb hby dc7_13) rfl (l' := #[.val (.ref ba), .val (.int (0 : Int32)), .val (.ref da), .val (.int (0 : Int32)), .val (.int (4 : Int32)), .val (.int (0 : Int32)), .val (.int c0)]) rfl (XS.iload W0.here W0.hx rfl (hb hby dc7_15) rfl (XS.sipush W0.here W0.hx rfl (hb hby dc7_17) q9_))) ?_
  by_cases e0 : (255 : Int32) < c0
  · refine Go.by (fun t9_ q9_ => XS.icmpNo W0.here W0.hx rfl (hb hby dc7_20) rfl (tlt e0).2.2.2 q9_) ?_
    refine Go.by (fun t9_ q9_ => XS.iload W0.here W0.hx rfl (hb hby dc7_23) rfl q9_) ?_
    show Go _ _ _ _ _ _ _ _ _ (T0.setTop (mkF m 25 #[.val (.ref ba), .val (.int (0 : Int32)), .val (.ref da), .val (.int (0 : Int32)), .val (.int (4 : Int32)), .val (.int (0 : Int32)), .val (.int c0)] [(.int (0 : Int32))]))
    exact W0.retI (by decide) (by decide) hret (hb hby dc7_25) ⟨(0 : Int32), rfl, (Keep.refl h0 [da]), Or.inl ⟨rfl, e0⟩⟩
  · refine Go.by (fun t9_ q9_ => XS.icmpYes W0.here W0.hx rfl (pc0 := 20) (pc' := 26) rfl (hb hby dc7_20) rfl (flt e0).2.2.2 (by decide) (by decide) q9_) ?_
    refine Go.by (fun t9_ q9_ => XS.aloadN W0.here W0.hx rfl (hb hby dc7_26) rfl rfl (XS.iloadN W0.here W0.hx rfl (hb hby dc7_27) rfl (XS.iload W0.here W0.hx rfl (hb hby dc7_28) rfl (XS.i2b W0.here W0.hx rfl (hb hby dc7_30) rfl q9_)))) ?_
    show Go _ _ _ _ _ _ _ _ _ (T0.setTop (mkF m 31 #[.val (.ref ba), .val (.int (0 : Int32)), .val (.ref da), .val (.int (0 : Int32)), .val (.int (4 : Int32)), .val (.int (0 : Int32)), .val (.int c0)] [(.int (c0.toInt8.toInt32)), (.int (0 : Int32)), (.ref da)]))
    refine W0.bast A_d ⟨by decide, by decide⟩ (i := 0) rfl (by simp) (v' := (StrChars.lo8 c0)) (by simp [nar, StrChars.lo8, lo8_lo8]) z_da (List.mem_of_getElem? (i := 0) rfl) (hb hby dc7_31) ?_
    intro T503 h504 W505 Wr506 V507_da'
    have V507_da : Arv Z h504 da k_da .byte (4 : Int32) [(.int (StrChars.lo8 c0)), (.int (0 : Int32)), (.int (0 : Int32)), (.int (0 : Int32))] (.int (0 : Int32)) := V507_da'
    refine Go.by (fun t9_ q9_ => XS.iinc W505.here W505.hx rfl (hb hby dc7_32) rfl (l' := #[.val (.ref ba), .val (.int ((0 : Int32) + (1 : Int32))), .val (.ref da), .val (.int (0 : Int32)), .val (.int (4 : Int32)), .val (.int (0 : Int32)), .val (.int c0)]) rfl q9_) ?_
    show Go _ _ _ _ _ _ _ _ _ (T503.setTop (mkF m 35 #[.val (.ref ba), .val (.int (1 : Int32)), .val (.ref da), .val (.int (0 : Int32)), .val (.int (4 : Int32)), .val (.int (0 : Int32)), .val (.int c0)] []))
    refine Go.by (fun t9_ q9_ => XS.iinc W505.here W505.hx rfl (hb hby dc7_35) rfl (l' := #[.val (.ref ba), .val (.int (1 : Int32)), .val (.ref da), .val (.int ((0 : Int32) + (1 : Int32))), .val (.int (4 : Int32)), .val (.int (0 : Int32)), .val (.int c0)]) rfl q9_) ?_
    show Go _ _ _ _ _ _ _ _ _ (T503.setTop (mkF m 38 #[.val (.ref ba), .val (.int (1 : Int32)), .val (.ref da), .val (.int (1 : Int32)), .val (.int (4 : Int32)), .val (.int (0 : Int32)), .val (.int c0)] []))
    refine Go.by (fun t9_ q9_ => XS.iinc W505.here W505.hx rfl (hb hby dc7_38) rfl (l' := #[.val (.ref ba), .val (.int (1 : Int32)), .val (.ref da), .val (.int (1 : Int32)), .val (.int (4 : Int32)), .val (.int ((0 : Int32) + (1 : Int32))), .val (.int c0)]) rfl q9_) ?_
    show Go _ _ _ _ _ _ _ _ _ (T503.setTop (mkF m 41 #[.val (.ref ba), .val (.int (1 : Int32)), .val (.ref da), .val (.int (1 : Int32)), .val (.int (4 : Int32)), .val (.int (1 : Int32)), .val (.int c0)] []))
    refine Go.by (fun t9_ q9_ => XS.goto W505.here W505.hx rfl (pc0 := 41) (pc' := 3) rfl (hb hby dc7_41) (by decide) (by decide) (XS.iload W505.here W505.hx rfl (hb hby dc7_3) rfl (XS.iload W505.here W505.hx rfl (hb hby dc7_5) rfl q9_))) ?_
    refine Go.by (fun t9_ q9_ => XS.icmpNo W505.here W505.hx rfl (hb hby dc7_7) rfl (tlt (by decide)).2.1 q9_) ?_
    refine Go.by (fun t9_ q9_ => XS.aloadN W505.here W505.hx rfl (hb hby dc7_10) rfl rfl (XS.iloadN W505.here W505.hx rfl (hb hby dc7_11) rfl q9_)) ?_
    show Go _ _ _ _ _ _ _ _ _ (T503.setTop (mkF m 12 #[.val (.ref ba), .val (.int (1 : Int32)), .val (.ref da), .val (.int (1 : Int32)), .val (.int (4 : Int32)), .val (.int (1 : Int32)), .val (.int c0)] [(.int (1 : Int32)), (.ref ba)]))
    refine W505.cald (A_b.other Wr506 nbd) ⟨by decide, by decide⟩ (v := (.int c1)) rfl (hb hby dc7_12) ?_
    refine Go.by (fun t9_ q9_ => XS.istore W505.here W505.hx rfl (hb hby dc7_13) rfl (l' := #[.val (.ref ba), .val (.int (1 : Int32)), .val (.ref da), .val (.int (1 : Int32)), .val (.int (4 : Int32)), .val (.int (1 : Int32)), .val (.int c1)]) rfl (XS.iload W505.here W505.hx rfl (hb hby dc7_15) rfl (XS.sipush W505.here W505.hx rfl (hb hby dc7_17) q9_))) ?_
    by_cases e1 : (255 : Int32) < c1
    · refine Go.by (fun t9_ q9_ => XS.icmpNo W505.here W505.hx rfl (hb hby dc7_20) rfl (tlt e1).2.2.2 q9_) ?_
      refine Go.by (fun t9_ q9_ => XS.iload W505.here W505.hx rfl (hb hby dc7_23) rfl q9_) ?_
      show Go _ _ _ _ _ _ _ _ _ (T503.setTop (mkF m 25 #[.val (.ref ba), .val (.int (1 : Int32)), .val (.ref da), .val (.int (1 : Int32)), .val (.int (4 : Int32)), .val (.int (1 : Int32)), .val (.int c1)] [(.int (1 : Int32))]))
      exact W505.retI (by decide) (by decide) hret (hb hby dc7_25) ⟨(1 : Int32), rfl, ((Keep.refl h0 [da]).wr Wr506 (Or.inl (List.mem_of_getElem? (i := 0) rfl))), Or.inr (Or.inl ⟨rfl, e1⟩)⟩
    · refine Go.by (fun t9_ q9_ => XS.icmpYes W505.here W505.hx rfl (pc0 := 20) (pc' := 26) rfl (hb hby dc7_20) rfl (flt e1).2.2.2 (by decide) (by decide) q9_) ?_
      refine Go.by (fun t9_ q9_ => XS.aloadN W505.here W505.hx rfl (hb hby dc7_26) rfl rfl (XS.iloadN W505.here W505.hx rfl (hb hby dc7_27) rfl (XS.iload W505.here W505.hx rfl (hb hby dc7_28) rfl (XS.i2b W505.here W505.hx rfl (hb hby dc7_30) rfl q9_)))) ?_
      show Go _ _ _ _ _ _ _ _ _ (T503.setTop (mkF m 31 #[.val (.ref ba), .val (.int (1 : Int32)), .val (.ref da), .val (.int (1 : Int32)), .val (.int (4 : Int32)), .val (.int (1 : Int32)), .val (.int c1)] [(.int (c1.toInt8.toInt32)), (.int (1 : Int32)), (.ref da)]))
      refine W505.bast V507_da ⟨by decide, by decide⟩ (i := 1) rfl (by simp) (v' := (StrChars.lo8 c1)) (by simp [nar, StrChars.lo8, lo8_lo8]) z_da (List.mem_of_getElem? (i := 0) rfl) (hb hby dc7_31) ?_
      intro T508 h509 W510 Wr511 V512_da'
      have V512_da : Arv Z h509 da k_da .byte (4 : Int32) [(.int (StrChars.lo8 c0)), (.int (StrChars.lo8 c1)), (.int (0 : Int32)), (.int (0 : Int32))] (.int (0 : Int32)) := V512_da'
      refine Go.by (fun t9_ q9_ => XS.iinc W510.here W510.hx rfl (hb hby dc7_32) rfl (l' := #[.val (.ref ba), .val (.int ((1 : Int32) + (1 : Int32))), .val (.ref da), .val (.int (1 : Int32)), .val (.int (4 : Int32)), .val (.int (1 : Int32)), .val (.int c1)]) rfl q9_) ?_
      show Go _ _ _ _ _ _ _ _ _ (T508.setTop (mkF m 35 #[.val (.ref ba), .val (.int (2 : Int32)), .val (.ref da), .val (.int (1 : Int32)), .val (.int (4 : Int32)), .val (.int (1 : Int32)), .val (.int c1)] []))
      refine Go.by (fun t9_ q9_ => XS.iinc W510.here W510.hx rfl (hb hby dc7_35) rfl (l' := #[.val (.ref ba), .val (.int (2 : Int32)), .val (.ref da), .val (.int ((1 : Int32) + (1 : Int32))), .val (.int (4 : Int32)), .val (.int (1 : Int32)), .val (.int c1)]) rfl q9_) ?_
      show Go _ _ _ _ _ _ _ _ _ (T508.setTop (mkF m 38 #[.val (.ref ba), .val (.int (2 : Int32)), .val (.ref da), .val (.int (2 : Int32)), .val (.int (4 : Int32)), .val (.int (1 : Int32)), .val (.int c1)] []))
      refine Go.by (fun t9_ q9_ => XS.iinc W510.here W510.hx rfl (hb hby dc7_38) rfl (l' := #[.val (.ref ba), .val (.int (2 : Int32)), .val (.ref da), .val (.int (2 : Int32)), .val (.int (4 : Int32)), .val (.int ((1 : Int32) + (1 : Int32))), .val (.int c1)]) rfl q9_) ?_
      show Go _ _ _ _ _ _ _ _ _ (T508.setTop (mkF m 41 #[.val (.ref ba), .val (.int (2 : Int32)), .val (.ref da), .val (.int (2 : Int32)), .val (.int (4 : Int32)), .val (.int (2 : Int32)), .val (.int c1)] []))
      refine Go.by (fun t9_ q9_ => XS.goto W510.here W510.hx rfl (pc0 := 41) (pc' := 3) rfl (hb hby dc7_41) (by decide) (by decide) (XS.iload W510.here W510.hx rfl (hb hby dc7_3) rfl (XS.iload W510.here W510.hx rfl (hb hby dc7_5) rfl q9_))) ?_
      refine Go.by (fun t9_ q9_ => XS.icmpNo W510.here W510.hx rfl (hb hby dc7_7) rfl (tlt (by decide)).2.1 q9_) ?_
      refine Go.by (fun t9_ q9_ => XS.aloadN W510.here W510.hx rfl (hb hby dc7_10) rfl rfl (XS.iloadN W510.here W510.hx rfl (hb hby dc7_11) rfl q9_)) ?_
      show Go _ _ _ _ _ _ _ _ _ (T508.setTop (mkF m 12 #[.val (.ref ba), .val (.int (2 : Int32)), .val (.ref da), .val (.int (2 : Int32)), .val (.int (4 : Int32)), .val (.int (2 : Int32)), .val (.int c1)] [(.int (2 : Int32)), (.ref ba)]))
      refine W510.cald ((A_b.other Wr506 nbd).other Wr511 nbd) ⟨by decide, by decide⟩ (v := (.int c2)) rfl (hb hby dc7_12) ?_
      refine Go.by (fun t9_ q9_ => XS.istore W510.here W510.hx rfl (hb hby dc7_13) rfl (l' := #[.val (.ref ba), .val (.int (2 : Int32)), .val (.ref da), .val (.int (2 : Int32)), .val (.int (4 : Int32)), .val (.int (2 : Int32)), .val (.int c2)]) rfl (XS.iload W510.here W510.hx rfl (hb hby dc7_15) rfl (XS.sipush W510.here W510.hx rfl (hb hby dc7_17) q9_))) ?_
      by_cases e2 : (255 : Int32) < c2
      · refine Go.by (fun t9_ q9_ => XS.icmpNo W510.here W510.hx rfl (hb hby dc7_20) rfl (tlt e2).2.2.2 q9_) ?_
        refine Go.by (fun t9_ q9_ => XS.iload W510.here W510.hx rfl (hb hby dc7_23) rfl q9_) ?_
        show Go _ _ _ _ _ _ _ _ _ (T508.setTop (mkF m 25 #[.val (.ref ba), .val (.int (2 : Int32)), .val (.ref da), .val (.int (2 : Int32)), .val (.int (4 : Int32)), .val (.int (2 : Int32)), .val (.int c2)] [(.int (2 : Int32))]))
        exact W510.retI (by decide) (by decide) hret (hb hby dc7_25) ⟨(2 : Int32), rfl, (((Keep.refl h0 [da]).wr Wr506 (Or.inl (List.mem_of_getElem? (i := 0) rfl))).wr Wr511 (Or.inl (List.mem_of_getElem? (i := 0) rfl))), Or.inr (Or.inr (Or.inl ⟨rfl, e2⟩))⟩
      · refine Go.by (fun t9_ q9_ => XS.icmpYes W510.here W510.hx rfl (pc0 := 20) (pc' := 26) rfl (hb hby dc7_20) rfl (flt e2).2.2.2 (by decide) (by decide) q9_) ?_
        refine Go.by (fun t9_ q9_ => XS.aloadN W510.here W510.hx rfl (hb hby dc7_26) rfl rfl (XS.iloadN W510.here W510.hx rfl (hb hby dc7_27) rfl (XS.iload W510.here W510.hx rfl (hb hby dc7_28) rfl (XS.i2b W510.here W510.hx rfl (hb hby dc7_30) rfl q9_)))) ?_
        show Go _ _ _ _ _ _ _ _ _ (T508.setTop (mkF m 31 #[.val (.ref ba), .val (.int (2 : Int32)), .val (.ref da), .val (.int (2 : Int32)), .val (.int (4 : Int32)), .val (.int (2 : Int32)), .val (.int c2)] [(.int (c2.toInt8.toInt32)), (.int (2 : Int32)), (.ref da)]))
        refine W510.bast V512_da ⟨by decide, by decide⟩ (i := 2) rfl (by simp) (v' := (StrChars.lo8 c2)) (by simp [nar, StrChars.lo8, lo8_lo8]) z_da (List.mem_of_getElem? (i := 0) rfl) (hb hby dc7_31) ?_
        intro T513 h514 W515 Wr516 V517_da'
        have V517_da : Arv Z h514 da k_da .byte (4 : Int32) [(.int (StrChars.lo8 c0)), (.int (StrChars.lo8 c1)), (.int (StrChars.lo8 c2)), (.int (0 : Int32))] (.int (0 : Int32)) := V517_da'
        refine Go.by (fun t9_ q9_ => XS.iinc W515.here W515.hx rfl (hb hby dc7_32) rfl (l' := #[.val (.ref ba), .val (.int ((2 : Int32) + (1 : Int32))), .val (.ref da), .val (.int (2 : Int32)), .val (.int (4 : Int32)), .val (.int (2 : Int32)), .val (.int c2)]) rfl q9_) ?_
        show Go _ _ _ _ _ _ _ _ _ (T513.setTop (mkF m 35 #[.val (.ref ba), .val (.int (3 : Int32)), .val (.ref da), .val (.int (2 : Int32)), .val (.int (4 : Int32)), .val (.int (2 : Int32)), .val (.int c2)] []))
        refine Go.by (fun t9_ q9_ => XS.iinc W515.here W515.hx rfl (hb hby dc7_35) rfl (l' := #[.val (.ref ba), .val (.int (3 : Int32)), .val (.ref da), .val (.int ((2 : Int32) + (1 : Int32))), .val (.int (4 : Int32)), .val (.int (2 : Int32)), .val (.int c2)]) rfl q9_) ?_
        show Go _ _ _ _ _ _ _ _ _ (T513.setTop (mkF m 38 #[.val (.ref ba), .val (.int (3 : Int32)), .val (.ref da), .val (.int (3 : Int32)), .val (.int (4 : Int32)), .val (.int (2 : Int32)), .val (.int c2)] []))
        refine Go.by (fun t9_ q9_ => XS.iinc W515.here W515.hx rfl (hb hby dc7_38) rfl (l' := #[.val (.ref ba), .val (.int (3 : Int32)), .val (.ref da), .val (.int (3 : Int32)), .val (.int (4 : Int32)), .val (.int ((2 : Int32) + (1 : Int32))), .val (.int c2)]) rfl q9_) ?_
        show Go _ _ _ _ _ _ _ _ _ (T513.setTop (mkF m 41 #[.val (.ref ba), .val (.int (3 : Int32)), .val (.ref da), .val (.int (3 : Int32)), .val (.int (4 : Int32)), .val (.int (3 : Int32)), .val (.int c2)] []))
        refine Go.by (fun t9_ q9_ => XS.goto W515.here W515.hx rfl (pc0 := 41) (pc' := 3) rfl (hb hby dc7_41) (by decide) (by decide) (XS.iload W515.here W515.hx rfl (hb hby dc7_3) rfl (XS.iload W515.here W515.hx rfl (hb hby dc7_5) rfl q9_))) ?_
        refine Go.by (fun t9_ q9_ => XS.icmpNo W515.here W515.hx rfl (hb hby dc7_7) rfl (tlt (by decide)).2.1 q9_) ?_
        refine Go.by (fun t9_ q9_ => XS.aloadN W515.here W515.hx rfl (hb hby dc7_10) rfl rfl (XS.iloadN W515.here W515.hx rfl (hb hby dc7_11) rfl q9_)) ?_
        show Go _ _ _ _ _ _ _ _ _ (T513.setTop (mkF m 12 #[.val (.ref ba), .val (.int (3 : Int32)), .val (.ref da), .val (.int (3 : Int32)), .val (.int (4 : Int32)), .val (.int (3 : Int32)), .val (.int c2)] [(.int (3 : Int32)), (.ref ba)]))
        refine W515.cald (((A_b.other Wr506 nbd).other Wr511 nbd).other Wr516 nbd) ⟨by decide, by decide⟩ (v := (.int c3)) rfl (hb hby dc7_12) ?_
        refine Go.by (fun t9_ q9_ => XS.istore W515.here W515.hx rfl (hb hby dc7_13) rfl (l' := #[.val (.ref ba), .val (.int (3 : Int32)), .val (.ref da), .val (.int (3 : Int32)), .val (.int (4 : Int32)), .val (.int (3 : Int32)), .val (.int c3)]) rfl (XS.iload W515.here W515.hx rfl (hb hby dc7_15) rfl (XS.sipush W515.here W515.hx rfl (hb hby dc7_17) q9_))) ?_
        by_cases e3 : (255 : Int32) < c3
        · refine Go.by (fun t9_ q9_ => XS.icmpNo W515.here W515.hx rfl (hb hby dc7_20) rfl (tlt e3).2.2.2 q9_) ?_
          refine Go.by (fun t9_ q9_ => XS.iload W515.here W515.hx rfl (hb hby dc7_23) rfl q9_) ?_
          show Go _ _ _ _ _ _ _ _ _ (T513.setTop (mkF m 25 #[.val (.ref ba), .val (.int (3 : Int32)), .val (.ref da), .val (.int (3 : Int32)), .val (.int (4 : Int32)), .val (.int (3 : Int32)), .val (.int c3)] [(.int (3 : Int32))]))
          exact W515.retI (by decide) (by decide) hret (hb hby dc7_25) ⟨(3 : Int32), rfl, ((((Keep.refl h0 [da]).wr Wr506 (Or.inl (List.mem_of_getElem? (i := 0) rfl))).wr Wr511 (Or.inl (List.mem_of_getElem? (i := 0) rfl))).wr Wr516 (Or.inl (List.mem_of_getElem? (i := 0) rfl))), Or.inr (Or.inr (Or.inr (⟨rfl, e3⟩)))⟩
        · refine Go.by (fun t9_ q9_ => XS.icmpYes W515.here W515.hx rfl (pc0 := 20) (pc' := 26) rfl (hb hby dc7_20) rfl (flt e3).2.2.2 (by decide) (by decide) q9_) ?_
          refine Go.by (fun t9_ q9_ => XS.aloadN W515.here W515.hx rfl (hb hby dc7_26) rfl rfl (XS.iloadN W515.here W515.hx rfl (hb hby dc7_27) rfl (XS.iload W515.here W515.hx rfl (hb hby dc7_28) rfl (XS.i2b W515.here W515.hx rfl (hb hby dc7_30) rfl q9_)))) ?_
          show Go _ _ _ _ _ _ _ _ _ (T513.setTop (mkF m 31 #[.val (.ref ba), .val (.int (3 : Int32)), .val (.ref da), .val (.int (3 : Int32)), .val (.int (4 : Int32)), .val (.int (3 : Int32)), .val (.int c3)] [(.int (c3.toInt8.toInt32)), (.int (3 : Int32)), (.ref da)]))
          refine W515.bast V517_da ⟨by decide, by decide⟩ (i := 3) rfl (by simp) (v' := (StrChars.lo8 c3)) (by simp [nar, StrChars.lo8, lo8_lo8]) z_da (List.mem_of_getElem? (i := 0) rfl) (hb hby dc7_31) ?_
          intro T518 h519 W520 Wr521 V522_da'
          have V522_da : Arv Z h519 da k_da .byte (4 : Int32) [(.int (StrChars.lo8 c0)), (.int (StrChars.lo8 c1)), (.int (StrChars.lo8 c2)), (.int (StrChars.lo8 c3))] (.int (0 : Int32)) := V522_da'
          refine Go.by (fun t9_ q9_ => XS.iinc W520.here W520.hx rfl (hb hby dc7_32) rfl (l' := #[.val (.ref ba), .val (.int ((3 : Int32) + (1 : Int32))), .val (.ref da), .val (.int (3 : Int32)), .val (.int (4 : Int32)), .val (.int (3 : Int32)), .val (.int c3)]) rfl q9_) ?_
          show Go _ _ _ _ _ _ _ _ _ (T518.setTop (mkF m 35 #[.val (.ref ba), .val (.int (4 : Int32)), .val (.ref da), .val (.int (3 : Int32)), .val (.int (4 : Int32)), .val (.int (3 : Int32)), .val (.int c3)] []))
          refine Go.by (fun t9_ q9_ => XS.iinc W520.here W520.hx rfl (hb hby dc7_35) rfl (l' := #[.val (.ref ba), .val (.int (4 : Int32)), .val (.ref da), .val (.int ((3 : Int32) + (1 : Int32))), .val (.int (4 : Int32)), .val (.int (3 : Int32)), .val (.int c3)]) rfl q9_) ?_
          show Go _ _ _ _ _ _ _ _ _ (T518.setTop (mkF m 38 #[.val (.ref ba), .val (.int (4 : Int32)), .val (.ref da), .val (.int (4 : Int32)), .val (.int (4 : Int32)), .val (.int (3 : Int32)), .val (.int c3)] []))
          refine Go.by (fun t9_ q9_ => XS.iinc W520.here W520.hx rfl (hb hby dc7_38) rfl (l' := #[.val (.ref ba), .val (.int (4 : Int32)), .val (.ref da), .val (.int (4 : Int32)), .val (.int (4 : Int32)), .val (.int ((3 : Int32) + (1 : Int32))), .val (.int c3)]) rfl q9_) ?_
          show Go _ _ _ _ _ _ _ _ _ (T518.setTop (mkF m 41 #[.val (.ref ba), .val (.int (4 : Int32)), .val (.ref da), .val (.int (4 : Int32)), .val (.int (4 : Int32)), .val (.int (4 : Int32)), .val (.int c3)] []))
          rcases hbig with z0 | z1 | z2 | z3 <;> contradiction
theorem c_cm3_4 (l : Launch) (Z : State) (a0 : Array Value) (hw : HW Z a0) (hEL : EW Z a0 [("java/lang/String", 7)]) (h0 : Heap) (hE0 : Ext Z.heap h0) (ba : Addr) (kb : ClassId) (c0 c1 c2 c3 : Int32) (PSH : PS3 Z) (A_b : Arv Z h0 ba kb .char (4 : Int32) [(.int c0), (.int c1), (.int c2), (.int c3)] (.int (0 : Int32))) (r0 : ¬ c0 < 0 ∧ ¬ (65535 : Int32) < c0) (r1 : ¬ c1 < 0 ∧ ¬ (65535 : Int32) < c1) (r2 : ¬ c2 < 0 ∧ ¬ (65535 : Int32) < c2) (r3 : ¬ c3 < 0 ∧ ¬ (65535 : Int32) < c3) (hbig : (255 : Int32) < c0 ∨ (255 : Int32) < c1 ∨ (255 : Int32) < c2 ∨ (255 : Int32) < c3) :
    Con l Z [("java/lang/String", 7)] [] (⟨"java/lang/StringUTF16", "compress", "([CII)[B"⟩ : MethodName) jdk_52_method_16_code 6 (some (.array .byte)) [] (⟨3, 2, 12, 40⟩ : Room) #[(.ref ba), (.int (0 : Int32)), (.int (4 : Int32))] h0 (fun v h' => ∃ ta kt, v = some (.ref ta) ∧ Ext h0 h' ∧ Exa Z h' ta "[B" ∧ Arv Z h' ta kt .byte (8 : Int32) [(.int (StrChars.lo8 c0)), (.int (StrChars.hi8 c0)), (.int (StrChars.lo8 c1)), (.int (StrChars.hi8 c1)), (.int (StrChars.lo8 c2)), (.int (StrChars.hi8 c2)), (.int (StrChars.lo8 c3)), (.int (StrChars.hi8 c3))] (.int (0 : Int32))) := by
  refine Con.mk (plainFor_of_name pn_1) hEL hE0 (fun x hx => by cases hx) ?_
  intro p e s m below meth c T0 hby hml hret hnm W0
  rw [(show entryFrame m #[(.ref ba), (.int (0 : Int32)), (.int (4 : Int32))] 6 = mkF m 0 #[.val (.ref ba), .val (.int (0 : Int32)), .val (.int (4 : Int32)), .unset, .unset, .unset] [] from by first | (simp [entryFrame, mkF, argsToLocals, Value.category]; done) | rfl)]
  refine Go.by (fun t9_ q9_ => XS.iloadN W0.here W0.hx rfl (hb hby dc8_0) rfl q9_) ?_
  show Go _ _ _ _ _ _ _ _ _ (T0.setTop (mkF m 1 #[.val (.ref ba), .val (.int (0 : Int32)), .val (.int (4 : Int32)), .unset, .unset, .unset] [(.int (4 : Int32))]))
  refine W0.newp (aty := .byte) (wd23 hw) (hb hby dc8_1) (by decide) (cap := 4) (by decide) (by decide) (k' := 1) (n' := 4) rfl rfl (by decide) (by decide) (ad := "[B") rfl ?_
  intro T523 h524 da k_da W525 E526 g_da z_da A_da V_da
  have V1_da : Arv Z h524 da k_da .byte (4 : Int32) [(.int (0 : Int32)), (.int (0 : Int32)), (.int (0 : Int32)), (.int (0 : Int32))] (.int (0 : Int32)) := V_da.pad (pad_rep [] (.int (0 : Int32)) 4)
  refine Go.by (fun t9_ q9_ => XS.astoreN W525.here W525.hx rfl (hb hby dc8_3) rfl rfl (l' := #[.val (.ref ba), .val (.int (0 : Int32)), .val (.int (4 : Int32)), .val (.ref da), .unset, .unset]) rfl (XS.aloadN W525.here W525.hx rfl (hb hby dc8_4) rfl rfl (XS.iloadN W525.here W525.hx rfl (hb hby dc8_5) rfl (XS.aloadN W525.here W525.hx rfl (hb hby dc8_6) rfl rfl (XS.iconst W525.here W525.hx rfl (hb hby dc8_7) (XS.iloadN W525.here W525.hx rfl (hb hby dc8_8) rfl q9_)))))) ?_
  show Go _ _ _ _ _ _ _ _ _ (T523.setTop (mkF m 9 #[.val (.ref ba), .val (.int (0 : Int32)), .val (.int (4 : Int32)), .val (.ref da), .unset, .unset] [(.int (4 : Int32)), (.int (0 : Int32)), (.ref da), (.int (0 : Int32)), (.ref ba)]))
  refine W525.callS (y := (⟨"java/lang/StringUTF16", "compress", "([CI[BII)I"⟩ : MethodName)) (wd39 hw) (wd40 hw) (wd37 hw) (wd41 hw) (by decide) (c_cm5_4 l Z a0 hw hEL h524 W525.old ba da kb k_da c0 c1 c2 c3 (A_b.ext E526) V1_da z_da (Nat.ne_of_lt (Nat.lt_of_lt_of_le A_b.lt (Nat.le_of_eq g_da))) hbig) (allS (List.mem_of_getElem? (i := 0) rfl) all0) (by decide) (by decide) (k' := 1) (n' := 4) rfl rfl (by decide) (by decide) (by rw [hml]; rfl) (argsL := [(.ref ba), (.int (0 : Int32)), (.ref da), (.int (0 : Int32)), (.int (4 : Int32))]) (rest := []) (lenOf pd_4 rfl) rfl rfl (Wt := 0) (Nat.le_of_eq rfl) (hb hby dc8_9) ?_
  intro v_ T527 h529 W528 hq_
  obtain ⟨kk, rfl, K1, hk⟩ := hq_
  refine Go.by (fun t9_ q9_ => XS.istore W528.here W528.hx rfl (hb hby dc8_12) rfl (l' := #[.val (.ref ba), .val (.int (0 : Int32)), .val (.int (4 : Int32)), .val (.ref da), .val (.int kk), .unset]) rfl (XS.iload W528.here W528.hx rfl (hb hby dc8_14) rfl (XS.iloadN W528.here W528.hx rfl (hb hby dc8_16) rfl q9_))) ?_
  rcases hk with ⟨rfl, e0⟩ | ⟨rfl, e1⟩ | ⟨rfl, e2⟩ | ⟨rfl, e3⟩
  · refine Go.by (fun t9_ q9_ => XS.icmpNo W528.here W528.hx rfl (hb hby dc8_17) rfl (feq (by decide)).1 q9_) ?_
    refine Go.by (fun t9_ q9_ => XS.aloadN W528.here W528.hx rfl (hb hby dc8_20) rfl rfl (XS.iloadN W528.here W528.hx rfl (hb hby dc8_21) rfl (XS.iloadN W528.here W528.hx rfl (hb hby dc8_22) rfl q9_))) ?_
    have X530 : Ext h0 h529 := (Ext.keep' E526 K1 (allS (Nat.le_of_eq g_da) all0))
    show Go _ _ _ _ _ _ _ _ _ (T527.setTop (mkF m 23 #[.val (.ref ba), .val (.int (0 : Int32)), .val (.int (4 : Int32)), .val (.ref da), .val (.int (0 : Int32)), .unset] [(.int (4 : Int32)), (.int (0 : Int32)), (.ref ba)]))
    refine W528.callS (y := (⟨"java/lang/StringUTF16", "toBytes", "([CII)[B"⟩ : MethodName)) (wd45 hw) (wd46 hw) (wd37 hw) (wd47 hw) (by decide) (c_tb4 l Z a0 hw hEL h529 W528.old ba kb c0 c1 c2 c3 PSH (A_b.ext X530)) all0 (by decide) (by decide) (k' := 2) (n' := 12) rfl rfl (by decide) (by decide) (by rw [hml]; rfl) (argsL := [(.ref ba), (.int (0 : Int32)), (.int (4 : Int32))]) (rest := []) (lenOf pd_5 rfl) rfl rfl (Wt := 0) (Nat.le_of_eq rfl) (hb hby dc8_23) ?_
    intro v_ T531 h533 W532 hq_
    obtain ⟨ta, k_ta, rfl, X2, E_ta, A_ta⟩ := hq_
    refine Go.by (fun t9_ q9_ => XS.astore W532.here W532.hx rfl (hb hby dc8_26) rfl rfl (l' := #[.val (.ref ba), .val (.int (0 : Int32)), .val (.int (4 : Int32)), .val (.ref da), .val (.int (0 : Int32)), .val (.ref ta)]) rfl (XS.aload W532.here W532.hx rfl (hb hby dc8_28) rfl rfl (XS.iload W532.here W532.hx rfl (hb hby dc8_30) rfl q9_))) ?_
    show Go _ _ _ _ _ _ _ _ _ (T531.setTop (mkF m 32 #[.val (.ref ba), .val (.int (0 : Int32)), .val (.int (4 : Int32)), .val (.ref da), .val (.int (0 : Int32)), .val (.ref ta)] [(.int (0 : Int32)), (.ref ta)]))
    refine W532.callSp (y := (⟨"java/lang/StringUTF16", "getChar", "([BI)C"⟩ : MethodName)) (wd61 hw) (wd62 hw) (wd37 hw) (wd63 hw) (by decide) (c_get4_0 l Z a0 hw hEL h533 W532.old ta k_ta _ _ _ c0 PSH A_ta rfl rfl (StrChars.pair_says r0.1 r0.2) r0) all0 (by decide) (by decide) (k' := 2) (n' := 12) rfl rfl (by decide) (by decide) (by rw [hml]; rfl) (argsL := [(.ref ta), (.int (0 : Int32))]) (rest := []) (lenOf pd_6 rfl) rfl rfl (Wt := 0) (Nat.le_of_eq rfl) (hb hby dc8_32) ?_
    intro T534 W535
    refine Go.by (fun t9_ q9_ => XS.sipush W535.here W535.hx rfl (hb hby dc8_35) q9_) ?_
    refine Go.by (fun t9_ q9_ => XS.icmpYes W535.here W535.hx rfl (pc0 := 38) (pc' := 54) rfl (hb hby dc8_38) rfl (tlt e0).2.2.1 (by decide) (by decide) q9_) ?_
    refine Go.by (fun t9_ q9_ => XS.aload W535.here W535.hx rfl (hb hby dc8_54) rfl rfl q9_) ?_
    have X536 : Ext h0 h533 := (Ext.trans' X530 X2)
    show Go _ _ _ _ _ _ _ _ _ (T534.setTop (mkF m 56 #[.val (.ref ba), .val (.int (0 : Int32)), .val (.int (4 : Int32)), .val (.ref da), .val (.int (0 : Int32)), .val (.ref ta)] [(.ref ta)]))
    exact W535.retA (by decide) (by decide) hret rfl rfl (hb hby dc8_56) ⟨ta, k_ta, rfl, X536, E_ta, A_ta⟩
  · refine Go.by (fun t9_ q9_ => XS.icmpNo W528.here W528.hx rfl (hb hby dc8_17) rfl (feq (by decide)).1 q9_) ?_
    refine Go.by (fun t9_ q9_ => XS.aloadN W528.here W528.hx rfl (hb hby dc8_20) rfl rfl (XS.iloadN W528.here W528.hx rfl (hb hby dc8_21) rfl (XS.iloadN W528.here W528.hx rfl (hb hby dc8_22) rfl q9_))) ?_
    have X537 : Ext h0 h529 := (Ext.keep' E526 K1 (allS (Nat.le_of_eq g_da) all0))
    show Go _ _ _ _ _ _ _ _ _ (T527.setTop (mkF m 23 #[.val (.ref ba), .val (.int (0 : Int32)), .val (.int (4 : Int32)), .val (.ref da), .val (.int (1 : Int32)), .unset] [(.int (4 : Int32)), (.int (0 : Int32)), (.ref ba)]))
    refine W528.callS (y := (⟨"java/lang/StringUTF16", "toBytes", "([CII)[B"⟩ : MethodName)) (wd45 hw) (wd46 hw) (wd37 hw) (wd47 hw) (by decide) (c_tb4 l Z a0 hw hEL h529 W528.old ba kb c0 c1 c2 c3 PSH (A_b.ext X537)) all0 (by decide) (by decide) (k' := 2) (n' := 12) rfl rfl (by decide) (by decide) (by rw [hml]; rfl) (argsL := [(.ref ba), (.int (0 : Int32)), (.int (4 : Int32))]) (rest := []) (lenOf pd_5 rfl) rfl rfl (Wt := 0) (Nat.le_of_eq rfl) (hb hby dc8_23) ?_
    intro v_ T538 h540 W539 hq_
    obtain ⟨ta, k_ta, rfl, X2, E_ta, A_ta⟩ := hq_
    refine Go.by (fun t9_ q9_ => XS.astore W539.here W539.hx rfl (hb hby dc8_26) rfl rfl (l' := #[.val (.ref ba), .val (.int (0 : Int32)), .val (.int (4 : Int32)), .val (.ref da), .val (.int (1 : Int32)), .val (.ref ta)]) rfl (XS.aload W539.here W539.hx rfl (hb hby dc8_28) rfl rfl (XS.iload W539.here W539.hx rfl (hb hby dc8_30) rfl q9_))) ?_
    show Go _ _ _ _ _ _ _ _ _ (T538.setTop (mkF m 32 #[.val (.ref ba), .val (.int (0 : Int32)), .val (.int (4 : Int32)), .val (.ref da), .val (.int (1 : Int32)), .val (.ref ta)] [(.int (1 : Int32)), (.ref ta)]))
    refine W539.callSp (y := (⟨"java/lang/StringUTF16", "getChar", "([BI)C"⟩ : MethodName)) (wd61 hw) (wd62 hw) (wd37 hw) (wd63 hw) (by decide) (c_get4_1 l Z a0 hw hEL h540 W539.old ta k_ta _ _ _ c1 PSH A_ta rfl rfl (StrChars.pair_says r1.1 r1.2) r1) all0 (by decide) (by decide) (k' := 2) (n' := 12) rfl rfl (by decide) (by decide) (by rw [hml]; rfl) (argsL := [(.ref ta), (.int (1 : Int32))]) (rest := []) (lenOf pd_6 rfl) rfl rfl (Wt := 0) (Nat.le_of_eq rfl) (hb hby dc8_32) ?_
    intro T541 W542
    refine Go.by (fun t9_ q9_ => XS.sipush W542.here W542.hx rfl (hb hby dc8_35) q9_) ?_
    refine Go.by (fun t9_ q9_ => XS.icmpYes W542.here W542.hx rfl (pc0 := 38) (pc' := 54) rfl (hb hby dc8_38) rfl (tlt e1).2.2.1 (by decide) (by decide) q9_) ?_
    refine Go.by (fun t9_ q9_ => XS.aload W542.here W542.hx rfl (hb hby dc8_54) rfl rfl q9_) ?_
    have X543 : Ext h0 h540 := (Ext.trans' X537 X2)
    show Go _ _ _ _ _ _ _ _ _ (T541.setTop (mkF m 56 #[.val (.ref ba), .val (.int (0 : Int32)), .val (.int (4 : Int32)), .val (.ref da), .val (.int (1 : Int32)), .val (.ref ta)] [(.ref ta)]))
    exact W542.retA (by decide) (by decide) hret rfl rfl (hb hby dc8_56) ⟨ta, k_ta, rfl, X543, E_ta, A_ta⟩
  · refine Go.by (fun t9_ q9_ => XS.icmpNo W528.here W528.hx rfl (hb hby dc8_17) rfl (feq (by decide)).1 q9_) ?_
    refine Go.by (fun t9_ q9_ => XS.aloadN W528.here W528.hx rfl (hb hby dc8_20) rfl rfl (XS.iloadN W528.here W528.hx rfl (hb hby dc8_21) rfl (XS.iloadN W528.here W528.hx rfl (hb hby dc8_22) rfl q9_))) ?_
    have X544 : Ext h0 h529 := (Ext.keep' E526 K1 (allS (Nat.le_of_eq g_da) all0))
    show Go _ _ _ _ _ _ _ _ _ (T527.setTop (mkF m 23 #[.val (.ref ba), .val (.int (0 : Int32)), .val (.int (4 : Int32)), .val (.ref da), .val (.int (2 : Int32)), .unset] [(.int (4 : Int32)), (.int (0 : Int32)), (.ref ba)]))
    refine W528.callS (y := (⟨"java/lang/StringUTF16", "toBytes", "([CII)[B"⟩ : MethodName)) (wd45 hw) (wd46 hw) (wd37 hw) (wd47 hw) (by decide) (c_tb4 l Z a0 hw hEL h529 W528.old ba kb c0 c1 c2 c3 PSH (A_b.ext X544)) all0 (by decide) (by decide) (k' := 2) (n' := 12) rfl rfl (by decide) (by decide) (by rw [hml]; rfl) (argsL := [(.ref ba), (.int (0 : Int32)), (.int (4 : Int32))]) (rest := []) (lenOf pd_5 rfl) rfl rfl (Wt := 0) (Nat.le_of_eq rfl) (hb hby dc8_23) ?_
    intro v_ T545 h547 W546 hq_
    obtain ⟨ta, k_ta, rfl, X2, E_ta, A_ta⟩ := hq_
    refine Go.by (fun t9_ q9_ => XS.astore W546.here W546.hx rfl (hb hby dc8_26) rfl rfl (l' := #[.val (.ref ba), .val (.int (0 : Int32)), .val (.int (4 : Int32)), .val (.ref da), .val (.int (2 : Int32)), .val (.ref ta)]) rfl (XS.aload W546.here W546.hx rfl (hb hby dc8_28) rfl rfl (XS.iload W546.here W546.hx rfl (hb hby dc8_30) rfl q9_))) ?_
    show Go _ _ _ _ _ _ _ _ _ (T545.setTop (mkF m 32 #[.val (.ref ba), .val (.int (0 : Int32)), .val (.int (4 : Int32)), .val (.ref da), .val (.int (2 : Int32)), .val (.ref ta)] [(.int (2 : Int32)), (.ref ta)]))
    refine W546.callSp (y := (⟨"java/lang/StringUTF16", "getChar", "([BI)C"⟩ : MethodName)) (wd61 hw) (wd62 hw) (wd37 hw) (wd63 hw) (by decide) (c_get4_2 l Z a0 hw hEL h547 W546.old ta k_ta _ _ _ c2 PSH A_ta rfl rfl (StrChars.pair_says r2.1 r2.2) r2) all0 (by decide) (by decide) (k' := 2) (n' := 12) rfl rfl (by decide) (by decide) (by rw [hml]; rfl) (argsL := [(.ref ta), (.int (2 : Int32))]) (rest := []) (lenOf pd_6 rfl) rfl rfl (Wt := 0) (Nat.le_of_eq rfl) (hb hby dc8_32) ?_
    intro T548 W549
    refine Go.by (fun t9_ q9_ => XS.sipush W549.here W549.hx rfl (hb hby dc8_35) q9_) ?_
    refine Go.by (fun t9_ q9_ => XS.icmpYes W549.here W549.hx rfl (pc0 := 38) (pc' := 54) rfl (hb hby dc8_38) rfl (tlt e2).2.2.1 (by decide) (by decide) q9_) ?_
    refine Go.by (fun t9_ q9_ => XS.aload W549.here W549.hx rfl (hb hby dc8_54) rfl rfl q9_) ?_
    have X550 : Ext h0 h547 := (Ext.trans' X544 X2)
    show Go _ _ _ _ _ _ _ _ _ (T548.setTop (mkF m 56 #[.val (.ref ba), .val (.int (0 : Int32)), .val (.int (4 : Int32)), .val (.ref da), .val (.int (2 : Int32)), .val (.ref ta)] [(.ref ta)]))
    exact W549.retA (by decide) (by decide) hret rfl rfl (hb hby dc8_56) ⟨ta, k_ta, rfl, X550, E_ta, A_ta⟩
  · refine Go.by (fun t9_ q9_ => XS.icmpNo W528.here W528.hx rfl (hb hby dc8_17) rfl (feq (by decide)).1 q9_) ?_
    refine Go.by (fun t9_ q9_ => XS.aloadN W528.here W528.hx rfl (hb hby dc8_20) rfl rfl (XS.iloadN W528.here W528.hx rfl (hb hby dc8_21) rfl (XS.iloadN W528.here W528.hx rfl (hb hby dc8_22) rfl q9_))) ?_
    have X551 : Ext h0 h529 := (Ext.keep' E526 K1 (allS (Nat.le_of_eq g_da) all0))
    show Go _ _ _ _ _ _ _ _ _ (T527.setTop (mkF m 23 #[.val (.ref ba), .val (.int (0 : Int32)), .val (.int (4 : Int32)), .val (.ref da), .val (.int (3 : Int32)), .unset] [(.int (4 : Int32)), (.int (0 : Int32)), (.ref ba)]))
    refine W528.callS (y := (⟨"java/lang/StringUTF16", "toBytes", "([CII)[B"⟩ : MethodName)) (wd45 hw) (wd46 hw) (wd37 hw) (wd47 hw) (by decide) (c_tb4 l Z a0 hw hEL h529 W528.old ba kb c0 c1 c2 c3 PSH (A_b.ext X551)) all0 (by decide) (by decide) (k' := 2) (n' := 12) rfl rfl (by decide) (by decide) (by rw [hml]; rfl) (argsL := [(.ref ba), (.int (0 : Int32)), (.int (4 : Int32))]) (rest := []) (lenOf pd_5 rfl) rfl rfl (Wt := 0) (Nat.le_of_eq rfl) (hb hby dc8_23) ?_
    intro v_ T552 h554 W553 hq_
    obtain ⟨ta, k_ta, rfl, X2, E_ta, A_ta⟩ := hq_
    refine Go.by (fun t9_ q9_ => XS.astore W553.here W553.hx rfl (hb hby dc8_26) rfl rfl (l' := #[.val (.ref ba), .val (.int (0 : Int32)), .val (.int (4 : Int32)), .val (.ref da), .val (.int (3 : Int32)), .val (.ref ta)]) rfl (XS.aload W553.here W553.hx rfl (hb hby dc8_28) rfl rfl (XS.iload W553.here W553.hx rfl (hb hby dc8_30) rfl q9_))) ?_
    show Go _ _ _ _ _ _ _ _ _ (T552.setTop (mkF m 32 #[.val (.ref ba), .val (.int (0 : Int32)), .val (.int (4 : Int32)), .val (.ref da), .val (.int (3 : Int32)), .val (.ref ta)] [(.int (3 : Int32)), (.ref ta)]))
    refine W553.callSp (y := (⟨"java/lang/StringUTF16", "getChar", "([BI)C"⟩ : MethodName)) (wd61 hw) (wd62 hw) (wd37 hw) (wd63 hw) (by decide) (c_get4_3 l Z a0 hw hEL h554 W553.old ta k_ta _ _ _ c3 PSH A_ta rfl rfl (StrChars.pair_says r3.1 r3.2) r3) all0 (by decide) (by decide) (k' := 2) (n' := 12) rfl rfl (by decide) (by decide) (by rw [hml]; rfl) (argsL := [(.ref ta), (.int (3 : Int32))]) (rest := []) (lenOf pd_6 rfl) rfl rfl (Wt := 0) (Nat.le_of_eq rfl) (hb hby dc8_32) ?_
    intro T555 W556
    refine Go.by (fun t9_ q9_ => XS.sipush W556.here W556.hx rfl (hb hby dc8_35) q9_) ?_
    refine Go.by (fun t9_ q9_ => XS.icmpYes W556.here W556.hx rfl (pc0 := 38) (pc' := 54) rfl (hb hby dc8_38) rfl (tlt e3).2.2.1 (by decide) (by decide) q9_) ?_
    refine Go.by (fun t9_ q9_ => XS.aload W556.here W556.hx rfl (hb hby dc8_54) rfl rfl q9_) ?_
    have X557 : Ext h0 h554 := (Ext.trans' X551 X2)
    show Go _ _ _ _ _ _ _ _ _ (T555.setTop (mkF m 56 #[.val (.ref ba), .val (.int (0 : Int32)), .val (.int (4 : Int32)), .val (.ref da), .val (.int (3 : Int32)), .val (.ref ta)] [(.ref ta)]))
    exact W556.retA (by decide) (by decide) hret rfl rfl (hb hby dc8_56) ⟨ta, k_ta, rfl, X557, E_ta, A_ta⟩
theorem c_cod4 (l : Launch) (Z : State) (a0 : Array Value) (hw : HW Z a0) (hEL : EW Z a0 [("java/lang/String", 7)]) (h0 : Heap) (hE0 : Ext Z.heap h0) (ta : Addr) (k_ta : ClassId) (vs : List Value) (A_t : Arv Z h0 ta k_ta .byte (8 : Int32) vs (.int (0 : Int32))) :
    Con l Z [("java/lang/String", 7)] [] (⟨"java/lang/StringUTF16", "coderFromArrayLen", "([BI)B"⟩ : MethodName) jdk_52_method_15_code 2 (some .byte) [] (⟨0, 0, 0, 0⟩ : Room) #[(.ref ta), (.int (4 : Int32))] h0 (fun v h' => v = (some (.int 1)) ∧ h' = h0) := by
  refine Con.mk (plainFor_of_name pn_1) hEL hE0 (fun x hx => by cases hx) ?_
  intro p e s m below meth c T0 hby hml hret hnm W0
  rw [(show entryFrame m #[(.ref ta), (.int (4 : Int32))] 2 = mkF m 0 #[.val (.ref ta), .val (.int (4 : Int32))] [] from by first | (simp [entryFrame, mkF, argsToLocals, Value.category]; done) | rfl)]
  refine Go.by (fun t9_ q9_ => XS.iloadN W0.here W0.hx rfl (hb hby dc9_0) rfl (XS.aloadN W0.here W0.hx rfl (hb hby dc9_1) rfl rfl q9_)) ?_
  show Go _ _ _ _ _ _ _ _ _ (T0.setTop (mkF m 2 #[.val (.ref ta), .val (.int (4 : Int32))] [(.ref ta), (.int (4 : Int32))]))
  refine W0.alen A_t (hb hby dc9_2) ?_
  refine Go.by (fun t9_ q9_ => XS.isub W0.here W0.hx rfl (hb hby dc9_3) rfl (XS.bipush W0.here W0.hx rfl (hb hby dc9_4) (XS.iushr W0.here W0.hx rfl (hb hby dc9_6) rfl (XS.i2b W0.here W0.hx rfl (hb hby dc9_7) rfl q9_)))) ?_
  show Go _ _ _ _ _ _ _ _ _ (T0.setTop (mkF m 8 #[.val (.ref ta), .val (.int (4 : Int32))] [(.int (((((4 : Int32) - (8 : Int32)).toUInt32 >>> ((31 : Int32) &&& 31).toUInt32).toInt32).toInt8.toInt32))]))
  exact W0.retN (z' := (1 : Int32)) (by decide) (by decide) hret (by simp) (hb hby dc9_8) (by decide) ⟨rfl, rfl⟩
theorem c_s4_4 (l : Launch) (Z : State) (a0 : Array Value) (hw : HW Z a0) (hEL : EW Z a0 [("java/lang/String", 7)]) (h0 : Heap) (hE0 : Ext Z.heap h0) (x ba : Addr) (kb : ClassId) (c0 c1 c2 c3 G1 : Int32) (E_x : Exa Z h0 x "java/lang/String") (FV : Fld Z h0 x "java/lang/String" "value" "[B" .null) (FC : Fld Z h0 x "java/lang/String" "coder" "B" (.int 0)) (z_x : Z.heap.size ≤ x) (PSH : PS3 Z) (SG1 : Sta Z Z.heap "java/lang/String" "COMPACT_STRINGS" "Z" (.int G1)) (hG : ¬ G1 = 0) (A_b : Arv Z h0 ba kb .char (4 : Int32) [(.int c0), (.int c1), (.int c2), (.int c3)] (.int (0 : Int32))) (r0 : ¬ c0 < 0 ∧ ¬ (65535 : Int32) < c0) (r1 : ¬ c1 < 0 ∧ ¬ (65535 : Int32) < c1) (r2 : ¬ c2 < 0 ∧ ¬ (65535 : Int32) < c2) (r3 : ¬ c3 < 0 ∧ ¬ (65535 : Int32) < c3) (hbig : (255 : Int32) < c0 ∨ (255 : Int32) < c1 ∨ (255 : Int32) < c2 ∨ (255 : Int32) < c3) :
    Con l Z [("java/lang/String", 7)] [x] (⟨"java/lang/String", "<init>", "([CIILjava/lang/Void;)V"⟩ : MethodName) jdk_42_method_149_code 6 none [] (⟨4, 2, 12, 57⟩ : Room) #[(.ref x), (.ref ba), (.int (0 : Int32)), (.int (4 : Int32)), .null] h0 (fun v h' => v = none ∧ Keep h0 h' [x] ∧ ∃ ta kt, Exa Z h' x "java/lang/String" ∧ Fld Z h' x "java/lang/String" "value" "[B" (.ref ta) ∧ Fld Z h' x "java/lang/String" "coder" "B" (.int 1) ∧ Arv Z h' ta kt .byte (8 : Int32) [(.int (StrChars.lo8 c0)), (.int (StrChars.hi8 c0)), (.int (StrChars.lo8 c1)), (.int (StrChars.hi8 c1)), (.int (StrChars.lo8 c2)), (.int (StrChars.hi8 c2)), (.int (StrChars.lo8 c3)), (.int (StrChars.hi8 c3))] (.int (0 : Int32))) := by
  refine Con.mk (plainFor_of_name pn_0) hEL hE0 (allS E_x.lt all0) ?_
  intro p e s m below meth c T0 hby hml hret hnm W0
  rw [(show entryFrame m #[(.ref x), (.ref ba), (.int (0 : Int32)), (.int (4 : Int32)), .null] 6 = mkF m 0 #[.val (.ref x), .val (.ref ba), .val (.int (0 : Int32)), .val (.int (4 : Int32)), .val .null, .unset] [] from by first | (simp [entryFrame, mkF, argsToLocals, Value.category]; done) | rfl)]
  refine Go.by (fun t9_ q9_ => XS.aloadN W0.here W0.hx rfl (hb hby dc0_0) rfl rfl q9_) ?_
  show Go _ _ _ _ _ _ _ _ _ (T0.setTop (mkF m 1 #[.val (.ref x), .val (.ref ba), .val (.int (0 : Int32)), .val (.int (4 : Int32)), .val .null, .unset] [(.ref x)]))
  refine W0.initO (wd19 hw) (wd20 hw) (wd21 hw) (by rw [hml]; rfl) (hb hby dc0_1) (by decide) (Wt := 0) (Nat.le_of_eq rfl) (by decide) ?_
  intro T558 W559
  refine Go.by (fun t9_ q9_ => XS.iloadN W559.here W559.hx rfl (hb hby dc0_4) rfl q9_) ?_
  refine Go.by (fun t9_ q9_ => XS.ifYes W559.here W559.hx rfl (pc0 := 5) (pc' := 27) rfl (hb hby dc0_5) rfl ((if0 _ _).trans (feq (by decide)).2) (by decide) (by decide) q9_) ?_
  show Go _ _ _ _ _ _ _ _ _ (T558.setTop (mkF m 27 #[.val (.ref x), .val (.ref ba), .val (.int (0 : Int32)), .val (.int (4 : Int32)), .val .null, .unset] []))
  refine W559.gets (host := "") (Or.inl (wd34 hw)) Via.refl (SG1.ext W559.old) (hb hby dc0_27) ?_
  intro T560 W561
  refine Go.by (fun t9_ q9_ => XS.ifNo W561.here W561.hx rfl (hb hby dc0_30) rfl ((if0 _ _).trans (feq hG).1) q9_) ?_
  refine Go.by (fun t9_ q9_ => XS.aloadN W561.here W561.hx rfl (hb hby dc0_33) rfl rfl (XS.iloadN W561.here W561.hx rfl (hb hby dc0_34) rfl (XS.iloadN W561.here W561.hx rfl (hb hby dc0_35) rfl q9_))) ?_
  show Go _ _ _ _ _ _ _ _ _ (T560.setTop (mkF m 36 #[.val (.ref x), .val (.ref ba), .val (.int (0 : Int32)), .val (.int (4 : Int32)), .val .null, .unset] [(.int (4 : Int32)), (.int (0 : Int32)), (.ref ba)]))
  refine W561.callS (y := (⟨"java/lang/StringUTF16", "compress", "([CII)[B"⟩ : MethodName)) (wd35 hw) (wd36 hw) (wd37 hw) (wd38 hw) (by decide) (c_cm3_4 l Z a0 hw hEL h0 W561.old ba kb c0 c1 c2 c3 PSH A_b r0 r1 r2 r3 hbig) all0 (by decide) (by decide) (k' := 2) (n' := 12) rfl rfl (by decide) (by decide) (by rw [hml]; rfl) (argsL := [(.ref ba), (.int (0 : Int32)), (.int (4 : Int32))]) (rest := []) (lenOf pd_5 rfl) rfl rfl (Wt := 0) (Nat.le_of_eq rfl) (hb hby dc0_36) ?_
  intro v_ T562 h564 W563 hq_
  obtain ⟨ta, k_ta, rfl, X1, E_ta, A_ta⟩ := hq_
  refine Go.by (fun t9_ q9_ => XS.astore W563.here W563.hx rfl (hb hby dc0_39) rfl rfl (l' := #[.val (.ref x), .val (.ref ba), .val (.int (0 : Int32)), .val (.int (4 : Int32)), .val .null, .val (.ref ta)]) rfl (XS.aloadN W563.here W563.hx rfl (hb hby dc0_41) rfl rfl (XS.aload W563.here W563.hx rfl (hb hby dc0_42) rfl rfl (XS.iloadN W563.here W563.hx rfl (hb hby dc0_44) rfl q9_)))) ?_
  show Go _ _ _ _ _ _ _ _ _ (T562.setTop (mkF m 45 #[.val (.ref x), .val (.ref ba), .val (.int (0 : Int32)), .val (.int (4 : Int32)), .val .null, .val (.ref ta)] [(.int (4 : Int32)), (.ref ta), (.ref x)]))
  refine W563.callSp (y := (⟨"java/lang/StringUTF16", "coderFromArrayLen", "([BI)B"⟩ : MethodName)) (wd42 hw) (wd43 hw) (wd37 hw) (wd44 hw) (by decide) (c_cod4 l Z a0 hw hEL h564 W563.old ta k_ta _ A_ta) all0 (by decide) (by decide) (k' := 2) (n' := 12) rfl rfl (by decide) (by decide) (by rw [hml]; rfl) (argsL := [(.ref ta), (.int (4 : Int32))]) (rest := [(.ref x)]) (lenOf pd_7 rfl) rfl rfl (Wt := 1) (Nat.le_of_eq rfl) (hb hby dc0_45) ?_
  intro T565 W566
  show Go _ _ _ _ _ _ _ _ _ (T565.setTop (mkF m 48 #[.val (.ref x), .val (.ref ba), .val (.int (0 : Int32)), .val (.int (4 : Int32)), .val .null, .val (.ref ta)] [(.int (1 : Int32)), (.ref x)]))
  refine W566.putf (host := "") (Or.inl (wd29 hw)) Via.refl (FC.ext X1) (E_x.ext X1) (Or.inr ⟨(wd25 hw), rfl, hnm⟩) (wd9 hw) (ty := .byte) (by decide) rfl rfl z_x (List.mem_of_getElem? (i := 0) rfl) (hb hby dc0_48) ?_
  intro T567 h568 W569 Wr570
  have F571 : Fld Z h568 x "java/lang/String" "coder" "B" (.int (1 : Int32)) := (FC.ext X1).same Wr570
  have F572 : Fld Z h568 x "java/lang/String" "value" "[B" .null := (FV.ext X1).other Wr570 (Or.inr (slot_ne (Or.inr (wd24 hw)) (Or.inr (wd25 hw)) (by decide) (t := (.array .byte)) (t' := .byte) (by decide) (by decide)))
  have A573 : Exa Z h568 x "java/lang/String" := (E_x.ext X1).wr Wr570
  refine Go.by (fun t9_ q9_ => XS.aloadN W569.here W569.hx rfl (hb hby dc0_51) rfl rfl (XS.aload W569.here W569.hx rfl (hb hby dc0_52) rfl rfl q9_)) ?_
  show Go _ _ _ _ _ _ _ _ _ (T567.setTop (mkF m 54 #[.val (.ref x), .val (.ref ba), .val (.int (0 : Int32)), .val (.int (4 : Int32)), .val .null, .val (.ref ta)] [(.ref ta), (.ref x)]))
  refine W569.putf (host := "") (Or.inl (wd28 hw)) Via.refl F572 A573 (Or.inr ⟨(wd24 hw), rfl, hnm⟩) (wd9 hw) (ty := (.array .byte)) (by decide) rfl rfl z_x (List.mem_of_getElem? (i := 0) rfl) (hb hby dc0_54) ?_
  intro T574 h575 W576 Wr577
  have F578 : Fld Z h575 x "java/lang/String" "value" "[B" (.ref ta) := F572.same Wr577
  have F579 : Fld Z h575 x "java/lang/String" "coder" "B" (.int (1 : Int32)) := F571.other Wr577 (Or.inr (slot_ne (Or.inr (wd25 hw)) (Or.inr (wd24 hw)) (by decide) (t := .byte) (t' := (.array .byte)) (by decide) (by decide)))
  have A580 : Exa Z h575 x "java/lang/String" := A573.wr Wr577
  show Go _ _ _ _ _ _ _ _ _ (T574.setTop (mkF m 57 #[.val (.ref x), .val (.ref ba), .val (.int (0 : Int32)), .val (.int (4 : Int32)), .val .null, .val (.ref ta)] []))
  exact W576.retV (by decide) (by decide) hret (hb hby dc0_57) ⟨rfl, ((((Keep.refl h0 [x]).ext X1).wr Wr570 (Or.inl (List.mem_of_getElem? (i := 0) rfl))).wr Wr577 (Or.inl (List.mem_of_getElem? (i := 0) rfl))), ta, k_ta, A580, F578, F579, ((A_ta.other Wr570 (Exa.ne E_ta (E_x.ext X1) (by decide))).other Wr577 (Exa.ne (E_ta.wr Wr570) A573 (by decide)))⟩
theorem c_s16_4 (l : Launch) (Z : State) (a0 : Array Value) (hw : HW Z a0) (hEL : EW Z a0 [("java/lang/String", 7)]) (h0 : Heap) (hE0 : Ext Z.heap h0) (x ba : Addr) (kb : ClassId) (c0 c1 c2 c3 G1 : Int32) (E_x : Exa Z h0 x "java/lang/String") (FV : Fld Z h0 x "java/lang/String" "value" "[B" .null) (FC : Fld Z h0 x "java/lang/String" "coder" "B" (.int 0)) (z_x : Z.heap.size ≤ x) (PSH : PS3 Z) (SG1 : Sta Z Z.heap "java/lang/String" "COMPACT_STRINGS" "Z" (.int G1)) (hG : ¬ G1 = 0) (A_b : Arv Z h0 ba kb .char (4 : Int32) [(.int c0), (.int c1), (.int c2), (.int c3)] (.int (0 : Int32))) (r0 : ¬ c0 < 0 ∧ ¬ (65535 : Int32) < c0) (r1 : ¬ c1 < 0 ∧ ¬ (65535 : Int32) < c1) (r2 : ¬ c2 < 0 ∧ ¬ (65535 : Int32) < c2) (r3 : ¬ c3 < 0 ∧ ¬ (65535 : Int32) < c3) (hbig : (255 : Int32) < c0 ∨ (255 : Int32) < c1 ∨ (255 : Int32) < c2 ∨ (255 : Int32) < c3) :
    Con l Z [("java/lang/String", 7)] [x] (⟨"java/lang/String", "<init>", "([C)V"⟩ : MethodName) jdk_42_method_3_code 2 none [] (⟨5, 2, 12, 74⟩ : Room) #[(.ref x), (.ref ba)] h0 (fun v h' => v = none ∧ Keep h0 h' [x] ∧ ∃ ta kt, Exa Z h' x "java/lang/String" ∧ Fld Z h' x "java/lang/String" "value" "[B" (.ref ta) ∧ Fld Z h' x "java/lang/String" "coder" "B" (.int 1) ∧ Arv Z h' ta kt .byte (8 : Int32) [(.int (StrChars.lo8 c0)), (.int (StrChars.hi8 c0)), (.int (StrChars.lo8 c1)), (.int (StrChars.hi8 c1)), (.int (StrChars.lo8 c2)), (.int (StrChars.hi8 c2)), (.int (StrChars.lo8 c3)), (.int (StrChars.hi8 c3))] (.int (0 : Int32))) := by
  refine Con.mk (plainFor_of_name pn_0) hEL hE0 (allS E_x.lt all0) ?_
  intro p e s m below meth c T0 hby hml hret hnm W0
  rw [(show entryFrame m #[(.ref x), (.ref ba)] 2 = mkF m 0 #[.val (.ref x), .val (.ref ba)] [] from by first | (simp [entryFrame, mkF, argsToLocals, Value.category]; done) | rfl)]
  refine Go.by (fun t9_ q9_ => XS.aloadN W0.here W0.hx rfl (hb hby dc1_0) rfl rfl (XS.aloadN W0.here W0.hx rfl (hb hby dc1_1) rfl rfl (XS.iconst W0.here W0.hx rfl (hb hby dc1_2) (XS.aloadN W0.here W0.hx rfl (hb hby dc1_3) rfl rfl q9_)))) ?_
  show Go _ _ _ _ _ _ _ _ _ (T0.setTop (mkF m 4 #[.val (.ref x), .val (.ref ba)] [(.ref ba), (.int (0 : Int32)), (.ref ba), (.ref x)]))
  refine W0.alen A_b (hb hby dc1_4) ?_
  refine Go.by (fun t9_ q9_ => XS.aconstNull W0.here W0.hx rfl (hb hby dc1_5) q9_) ?_
  show Go _ _ _ _ _ _ _ _ _ (T0.setTop (mkF m 6 #[.val (.ref x), .val (.ref ba)] [.null, (.int (4 : Int32)), (.int (0 : Int32)), (.ref ba), (.ref x)]))
  refine W0.callI (y := (⟨"java/lang/String", "<init>", "([CIILjava/lang/Void;)V"⟩ : MethodName)) rfl (wd15 hw) (wd16 hw) (wd10 hw) (wd18 hw) (by decide) (a := x) (c_s4_4 l Z a0 hw hEL h0 hE0 x ba kb c0 c1 c2 c3 G1 E_x FV FC z_x PSH SG1 hG A_b r0 r1 r2 r3 hbig) (allS (List.mem_of_getElem? (i := 0) rfl) all0) (by decide) (by decide) (k' := 2) (n' := 12) rfl rfl (by decide) (by decide) (by rw [hml]; rfl) (argsL := [(.ref ba), (.int (0 : Int32)), (.int (4 : Int32)), .null]) (rest := []) (lenOf pd_0 rfl) rfl rfl (Wt := 0) (Nat.le_of_eq rfl) (hb hby dc1_6) ?_
  intro v_ T581 h583 W582 hq_
  obtain ⟨rfl, K1, S1⟩ := hq_
  show Go _ _ _ _ _ _ _ _ _ (T581.setTop (mkF m 9 #[.val (.ref x), .val (.ref ba)] []))
  exact W582.retV (by decide) (by decide) hret (hb hby dc1_9) ⟨rfl, K1, S1⟩
theorem c_pci (l : Launch) (Z : State) (a0 : Array Value) (hw : HW Z a0) (hEL : EW Z a0 [("java/lang/String", 7)]) (h0 : Heap) (hE0 : Ext Z.heap h0) (ii nn : Int32) (fm : Value) (rfm : fm.isRef = true) (h1 : ¬ ii < 0) (h2 : ii < nn) :
    Con l Z [("java/lang/String", 7)] [] (⟨"jdk/internal/util/Preconditions", "checkIndex", "(IILjava/util/function/BiFunction;)I"⟩ : MethodName) jdk_41_method_11_code 3 (some .int) [] (⟨0, 0, 0, 0⟩ : Room) #[(.int ii), (.int nn), fm] h0 (fun v h' => v = (some (.int ii)) ∧ h' = h0) := by
  refine Con.mk (plainFor_of_name pn_2) hEL hE0 (fun x hx => by cases hx) ?_
  intro p e s m below meth c T0 hby hml hret hnm W0
  rw [(show entryFrame m #[(.int ii), (.int nn), fm] 3 = mkF m 0 #[.val (.int ii), .val (.int nn), .val fm] [] from by rcases ref_cases rfm with h_ | ⟨q_, h_⟩ <;> rw [h_] <;> first | (simp [entryFrame, mkF, argsToLocals, Value.category]; done) | rfl)]
  refine Go.by (fun t9_ q9_ => XS.iloadN W0.here W0.hx rfl (hb hby dc10_0) rfl q9_) ?_
  refine Go.by (fun t9_ q9_ => XS.ifNo W0.here W0.hx rfl (hb hby dc10_1) rfl ((if0 _ _).trans (flt h1).1) q9_) ?_
  refine Go.by (fun t9_ q9_ => XS.iloadN W0.here W0.hx rfl (hb hby dc10_4) rfl (XS.iloadN W0.here W0.hx rfl (hb hby dc10_5) rfl q9_)) ?_
  refine Go.by (fun t9_ q9_ => XS.icmpYes W0.here W0.hx rfl (pc0 := 6) (pc' := 16) rfl (hb hby dc10_6) rfl (tlt h2).1 (by decide) (by decide) q9_) ?_
  refine Go.by (fun t9_ q9_ => XS.iloadN W0.here W0.hx rfl (hb hby dc10_16) rfl q9_) ?_
  show Go _ _ _ _ _ _ _ _ _ (T0.setTop (mkF m 17 #[.val (.int ii), .val (.int nn), .val fm] [(.int ii)]))
  exact W0.retI (by decide) (by decide) hret (hb hby dc10_17) ⟨rfl, rfl⟩
theorem c_sci (l : Launch) (Z : State) (a0 : Array Value) (hw : HW Z a0) (hEL : EW Z a0 [("java/lang/String", 7)]) (h0 : Heap) (hE0 : Ext Z.heap h0) (ii nn : Int32) (fm : Value) (SFM : Sta Z Z.heap "jdk/internal/util/Preconditions" "SIOOBE_FORMATTER" "Ljava/util/function/BiFunction;" fm) (rfm : fm.isRef = true) (h1 : ¬ ii < 0) (h2 : ii < nn) :
    Con l Z [("java/lang/String", 7)] [] (⟨"java/lang/String", "checkIndex", "(II)V"⟩ : MethodName) jdk_42_method_155_code 2 none [] (⟨1, 0, 0, 14⟩ : Room) #[(.int ii), (.int nn)] h0 (fun v h' => v = none ∧ h' = h0) := by
  refine Con.mk (plainFor_of_name pn_0) hEL hE0 (fun x hx => by cases hx) ?_
  intro p e s m below meth c T0 hby hml hret hnm W0
  rw [(show entryFrame m #[(.int ii), (.int nn)] 2 = mkF m 0 #[.val (.int ii), .val (.int nn)] [] from by first | (simp [entryFrame, mkF, argsToLocals, Value.category]; done) | rfl)]
  refine Go.by (fun t9_ q9_ => XS.iloadN W0.here W0.hx rfl (hb hby dc11_0) rfl (XS.iloadN W0.here W0.hx rfl (hb hby dc11_1) rfl q9_)) ?_
  show Go _ _ _ _ _ _ _ _ _ (T0.setTop (mkF m 2 #[.val (.int ii), .val (.int nn)] [(.int nn), (.int ii)]))
  refine W0.gets (host := "") (Or.inl (wd103 hw)) Via.refl (SFM.ext W0.old) (hb hby dc11_2) ?_
  intro T584 W585
  show Go _ _ _ _ _ _ _ _ _ (T584.setTop (mkF m 5 #[.val (.int ii), .val (.int nn)] [fm, (.int nn), (.int ii)]))
  refine W585.callSp (y := (⟨"jdk/internal/util/Preconditions", "checkIndex", "(IILjava/util/function/BiFunction;)I"⟩ : MethodName)) (wd105 hw) (wd106 hw) (wd104 hw) (wd107 hw) (by decide) (c_pci l Z a0 hw hEL h0 W585.old ii nn fm rfm h1 h2) all0 (by decide) (by decide) (k' := 0) (n' := 0) rfl rfl (by decide) (by decide) (by rw [hml]; rfl) (argsL := [(.int ii), (.int nn), fm]) (rest := []) (lenOf pd_8 rfl) rfl rfl (Wt := 0) (Nat.le_of_eq rfl) (hb hby dc11_5) ?_
  intro T586 W587
  refine Go.by (fun t9_ q9_ => XS.pop W587.here W587.hx rfl (hb hby dc11_8) rfl rfl q9_) ?_
  show Go _ _ _ _ _ _ _ _ _ (T586.setTop (mkF m 9 #[.val (.int ii), .val (.int nn)] []))
  exact W587.retV (by decide) (by decide) hret (hb hby dc11_9) ⟨rfl, rfl⟩
theorem c_isl (l : Launch) (Z : State) (a0 : Array Value) (hw : HW Z a0) (hEL : EW Z a0 [("java/lang/String", 7)]) (h0 : Heap) (hE0 : Ext Z.heap h0) (xa : Addr) (G1 : Int32) (SG1 : Sta Z Z.heap "java/lang/String" "COMPACT_STRINGS" "Z" (.int G1)) (hG : ¬ G1 = 0) (FC : Fld Z h0 xa "java/lang/String" "coder" "B" (.int 1)) :
    Con l Z [("java/lang/String", 7)] [] (⟨"java/lang/String", "isLatin1", "()Z"⟩ : MethodName) jdk_42_method_154_code 1 (some .boolean) [] (⟨0, 0, 0, 0⟩ : Room) #[(.ref xa)] h0 (fun v h' => v = (some (.int 0)) ∧ h' = h0) := by
  refine Con.mk (plainFor_of_name pn_0) hEL hE0 (fun x hx => by cases hx) ?_
  intro p e s m below meth c T0 hby hml hret hnm W0
  rw [(show entryFrame m #[(.ref xa)] 1 = mkF m 0 #[.val (.ref xa)] [] from by first | (simp [entryFrame, mkF, argsToLocals, Value.category]; done) | rfl)]
  refine W0.gets (host := "") (Or.inl (wd34 hw)) Via.refl (SG1.ext W0.old) (hb hby dc12_0) ?_
  intro T588 W589
  refine Go.by (fun t9_ q9_ => XS.ifNo W589.here W589.hx rfl (hb hby dc12_3) rfl ((if0 _ _).trans (feq hG).1) q9_) ?_
  refine Go.by (fun t9_ q9_ => XS.aloadN W589.here W589.hx rfl (hb hby dc12_6) rfl rfl q9_) ?_
  show Go _ _ _ _ _ _ _ _ _ (T588.setTop (mkF m 7 #[.val (.ref xa)] [(.ref xa)]))
  refine W589.getf (host := "") (Or.inl (wd29 hw)) Via.refl FC (hb hby dc12_7) ?_
  intro T590 W591
  refine Go.by (fun t9_ q9_ => XS.ifYes W591.here W591.hx rfl (pc0 := 10) (pc' := 17) rfl (hb hby dc12_10) rfl ((if0 _ _).trans (feq (by decide)).2) (by decide) (by decide) q9_) ?_
  refine Go.by (fun t9_ q9_ => XS.iconst W591.here W591.hx rfl (hb hby dc12_17) q9_) ?_
  show Go _ _ _ _ _ _ _ _ _ (T590.setTop (mkF m 18 #[.val (.ref xa)] [(.int (0 : Int32))]))
  exact W591.retN (z' := (0 : Int32)) (by decide) (by decide) hret (by simp) (hb hby dc12_18) rfl ⟨rfl, rfl⟩
theorem c_l16_1 (l : Launch) (Z : State) (a0 : Array Value) (hw : HW Z a0) (hEL : EW Z a0 [("java/lang/String", 7)]) (h0 : Heap) (hE0 : Ext Z.heap h0) (ta : Addr) (k_ta : ClassId) (vs : List Value) (A_t : Arv Z h0 ta k_ta .byte (2 : Int32) vs (.int (0 : Int32))) :
    Con l Z [("java/lang/String", 7)] [] (⟨"java/lang/StringUTF16", "length", "([B)I"⟩ : MethodName) jdk_52_method_6_code 1 (some .int) [] (⟨0, 0, 0, 0⟩ : Room) #[(.ref ta)] h0 (fun v h' => v = (some (.int (1 : Int32))) ∧ h' = h0) := by
  refine Con.mk (plainFor_of_name pn_1) hEL hE0 (fun x hx => by cases hx) ?_
  intro p e s m below meth c T0 hby hml hret hnm W0
  rw [(show entryFrame m #[(.ref ta)] 1 = mkF m 0 #[.val (.ref ta)] [] from by first | (simp [entryFrame, mkF, argsToLocals, Value.category]; done) | rfl)]
  refine Go.by (fun t9_ q9_ => XS.aloadN W0.here W0.hx rfl (hb hby dc13_0) rfl rfl q9_) ?_
  show Go _ _ _ _ _ _ _ _ _ (T0.setTop (mkF m 1 #[.val (.ref ta)] [(.ref ta)]))
  refine W0.alen A_t (hb hby dc13_1) ?_
  refine Go.by (fun t9_ q9_ => XS.iconst W0.here W0.hx rfl (hb hby dc13_2) (XS.ishr W0.here W0.hx rfl (hb hby dc13_3) rfl q9_)) ?_
  show Go _ _ _ _ _ _ _ _ _ (T0.setTop (mkF m 4 #[.val (.ref ta)] [(.int ((2 : Int32) >>> ((1 : Int32) &&& 31)))]))
  rw [show ((2 : Int32) >>> ((1 : Int32) &&& 31)) = (1 : Int32) from by decide]
  show Go _ _ _ _ _ _ _ _ _ (T0.setTop (mkF m 4 #[.val (.ref ta)] [(.int (1 : Int32))]))
  exact W0.retI (by decide) (by decide) hret (hb hby dc13_4) ⟨rfl, rfl⟩
theorem c_uci1 (l : Launch) (Z : State) (a0 : Array Value) (hw : HW Z a0) (hEL : EW Z a0 [("java/lang/String", 7)]) (h0 : Heap) (hE0 : Ext Z.heap h0) (ii : Int32) (ta : Addr) (k_ta : ClassId) (vs : List Value) (fm : Value) (SFM : Sta Z Z.heap "jdk/internal/util/Preconditions" "SIOOBE_FORMATTER" "Ljava/util/function/BiFunction;" fm) (rfm : fm.isRef = true) (A_t : Arv Z h0 ta k_ta .byte (2 : Int32) vs (.int (0 : Int32))) (h1 : ¬ ii < 0) (h2 : ii < (1 : Int32)) :
    Con l Z [("java/lang/String", 7)] [] (⟨"java/lang/StringUTF16", "checkIndex", "(I[B)V"⟩ : MethodName) jdk_52_method_91_code 2 none [] (⟨2, 0, 0, 27⟩ : Room) #[(.int ii), (.ref ta)] h0 (fun v h' => v = none ∧ h' = h0) := by
  refine Con.mk (plainFor_of_name pn_1) hEL hE0 (fun x hx => by cases hx) ?_
  intro p e s m below meth c T0 hby hml hret hnm W0
  rw [(show entryFrame m #[(.int ii), (.ref ta)] 2 = mkF m 0 #[.val (.int ii), .val (.ref ta)] [] from by first | (simp [entryFrame, mkF, argsToLocals, Value.category]; done) | rfl)]
  refine Go.by (fun t9_ q9_ => XS.iloadN W0.here W0.hx rfl (hb hby dc14_0) rfl (XS.aloadN W0.here W0.hx rfl (hb hby dc14_1) rfl rfl q9_)) ?_
  show Go _ _ _ _ _ _ _ _ _ (T0.setTop (mkF m 2 #[.val (.int ii), .val (.ref ta)] [(.ref ta), (.int ii)]))
  refine W0.callSp (y := (⟨"java/lang/StringUTF16", "length", "([B)I"⟩ : MethodName)) (wd97 hw) (wd98 hw) (wd37 hw) (wd99 hw) (by decide) (c_l16_1 l Z a0 hw hEL h0 hE0 ta k_ta vs A_t) all0 (by decide) (by decide) (k' := 0) (n' := 0) rfl rfl (by decide) (by decide) (by rw [hml]; rfl) (argsL := [(.ref ta)]) (rest := [(.int ii)]) (lenOf pd_9 rfl) rfl rfl (Wt := 1) (Nat.le_of_eq rfl) (hb hby dc14_2) ?_
  intro T592 W593
  show Go _ _ _ _ _ _ _ _ _ (T592.setTop (mkF m 5 #[.val (.int ii), .val (.ref ta)] [(.int (1 : Int32)), (.int ii)]))
  refine W593.callSp (y := (⟨"java/lang/String", "checkIndex", "(II)V"⟩ : MethodName)) (wd100 hw) (wd101 hw) (wd10 hw) (wd102 hw) (by decide) (c_sci l Z a0 hw hEL h0 W593.old ii (1 : Int32) fm SFM rfm h1 h2) all0 (by decide) (by decide) (k' := 0) (n' := 0) rfl rfl (by decide) (by decide) (by rw [hml]; rfl) (argsL := [(.int ii), (.int (1 : Int32))]) (rest := []) (lenOf pd_10 rfl) rfl rfl (Wt := 0) (Nat.le_of_eq rfl) (hb hby dc14_5) ?_
  intro T594 W595
  show Go _ _ _ _ _ _ _ _ _ (T594.setTop (mkF m 8 #[.val (.int ii), .val (.ref ta)] []))
  exact W595.retV (by decide) (by decide) hret (hb hby dc14_8) ⟨rfl, rfl⟩
theorem c_uca1_0 (l : Launch) (Z : State) (a0 : Array Value) (hw : HW Z a0) (hEL : EW Z a0 [("java/lang/String", 7)]) (h0 : Heap) (hE0 : Ext Z.heap h0) (ta : Addr) (k_ta : ClassId) (vs : List Value) (uu vv cc : Int32) (fm : Value) (PSH : PS3 Z) (SFM : Sta Z Z.heap "jdk/internal/util/Preconditions" "SIOOBE_FORMATTER" "Ljava/util/function/BiFunction;" fm) (rfm : fm.isRef = true) (A_t : Arv Z h0 ta k_ta .byte (2 : Int32) vs (.int (0 : Int32))) (hu : vs.getD 0 (.int (0 : Int32)) = .int uu) (hv : vs.getD 1 (.int (0 : Int32)) = .int vv) (hp : StrChars.pairCh uu vv = cc) (r_c : ¬ cc < 0 ∧ ¬ (65535 : Int32) < cc) :
    Con l Z [("java/lang/String", 7)] [] (⟨"java/lang/StringUTF16", "charAt", "([BI)C"⟩ : MethodName) jdk_52_method_83_code 2 (some .char) [] (⟨3, 0, 0, 40⟩ : Room) #[(.ref ta), (.int (0 : Int32))] h0 (fun v h' => v = (some (.int cc)) ∧ h' = h0) := by
  refine Con.mk (plainFor_of_name pn_1) hEL hE0 (fun x hx => by cases hx) ?_
  intro p e s m below meth c T0 hby hml hret hnm W0
  rw [(show entryFrame m #[(.ref ta), (.int (0 : Int32))] 2 = mkF m 0 #[.val (.ref ta), .val (.int (0 : Int32))] [] from by first | (simp [entryFrame, mkF, argsToLocals, Value.category]; done) | rfl)]
  refine Go.by (fun t9_ q9_ => XS.iloadN W0.here W0.hx rfl (hb hby dc15_0) rfl (XS.aloadN W0.here W0.hx rfl (hb hby dc15_1) rfl rfl q9_)) ?_
  show Go _ _ _ _ _ _ _ _ _ (T0.setTop (mkF m 2 #[.val (.ref ta), .val (.int (0 : Int32))] [(.ref ta), (.int (0 : Int32))]))
  refine W0.callSp (y := (⟨"java/lang/StringUTF16", "checkIndex", "(I[B)V"⟩ : MethodName)) (wd94 hw) (wd95 hw) (wd37 hw) (wd96 hw) (by decide) (c_uci1 l Z a0 hw hEL h0 hE0 (0 : Int32) ta k_ta vs fm SFM rfm A_t (by decide) (by decide)) all0 (by decide) (by decide) (k' := 0) (n' := 0) rfl rfl (by decide) (by decide) (by rw [hml]; rfl) (argsL := [(.int (0 : Int32)), (.ref ta)]) (rest := []) (lenOf pd_11 rfl) rfl rfl (Wt := 0) (Nat.le_of_eq rfl) (hb hby dc15_2) ?_
  intro T596 W597
  refine Go.by (fun t9_ q9_ => XS.aloadN W597.here W597.hx rfl (hb hby dc15_5) rfl rfl (XS.iloadN W597.here W597.hx rfl (hb hby dc15_6) rfl q9_)) ?_
  show Go _ _ _ _ _ _ _ _ _ (T596.setTop (mkF m 7 #[.val (.ref ta), .val (.int (0 : Int32))] [(.int (0 : Int32)), (.ref ta)]))
  refine W597.callSp (y := (⟨"java/lang/StringUTF16", "getChar", "([BI)C"⟩ : MethodName)) (wd61 hw) (wd62 hw) (wd37 hw) (wd63 hw) (by decide) (c_get1_0 l Z a0 hw hEL h0 W597.old ta k_ta vs uu vv cc PSH A_t hu hv hp r_c) all0 (by decide) (by decide) (k' := 0) (n' := 0) rfl rfl (by decide) (by decide) (by rw [hml]; rfl) (argsL := [(.ref ta), (.int (0 : Int32))]) (rest := []) (lenOf pd_6 rfl) rfl rfl (Wt := 0) (Nat.le_of_eq rfl) (hb hby dc15_7) ?_
  intro T598 W599
  show Go _ _ _ _ _ _ _ _ _ (T598.setTop (mkF m 10 #[.val (.ref ta), .val (.int (0 : Int32))] [(.int cc)]))
  exact W599.retN (z' := cc) (by decide) (by decide) hret (by simp) (hb hby dc15_10) (nar_id r_c) ⟨rfl, rfl⟩
theorem c_l16_2 (l : Launch) (Z : State) (a0 : Array Value) (hw : HW Z a0) (hEL : EW Z a0 [("java/lang/String", 7)]) (h0 : Heap) (hE0 : Ext Z.heap h0) (ta : Addr) (k_ta : ClassId) (vs : List Value) (A_t : Arv Z h0 ta k_ta .byte (4 : Int32) vs (.int (0 : Int32))) :
    Con l Z [("java/lang/String", 7)] [] (⟨"java/lang/StringUTF16", "length", "([B)I"⟩ : MethodName) jdk_52_method_6_code 1 (some .int) [] (⟨0, 0, 0, 0⟩ : Room) #[(.ref ta)] h0 (fun v h' => v = (some (.int (2 : Int32))) ∧ h' = h0) := by
  refine Con.mk (plainFor_of_name pn_1) hEL hE0 (fun x hx => by cases hx) ?_
  intro p e s m below meth c T0 hby hml hret hnm W0
  rw [(show entryFrame m #[(.ref ta)] 1 = mkF m 0 #[.val (.ref ta)] [] from by first | (simp [entryFrame, mkF, argsToLocals, Value.category]; done) | rfl)]
  refine Go.by (fun t9_ q9_ => XS.aloadN W0.here W0.hx rfl (hb hby dc13_0) rfl rfl q9_) ?_
  show Go _ _ _ _ _ _ _ _ _ (T0.setTop (mkF m 1 #[.val (.ref ta)] [(.ref ta)]))
  refine W0.alen A_t (hb hby dc13_1) ?_
  refine Go.by (fun t9_ q9_ => XS.iconst W0.here W0.hx rfl (hb hby dc13_2) (XS.ishr W0.here W0.hx rfl (hb hby dc13_3) rfl q9_)) ?_
  show Go _ _ _ _ _ _ _ _ _ (T0.setTop (mkF m 4 #[.val (.ref ta)] [(.int ((4 : Int32) >>> ((1 : Int32) &&& 31)))]))
  rw [show ((4 : Int32) >>> ((1 : Int32) &&& 31)) = (2 : Int32) from by decide]
  show Go _ _ _ _ _ _ _ _ _ (T0.setTop (mkF m 4 #[.val (.ref ta)] [(.int (2 : Int32))]))
  exact W0.retI (by decide) (by decide) hret (hb hby dc13_4) ⟨rfl, rfl⟩
theorem c_uci2 (l : Launch) (Z : State) (a0 : Array Value) (hw : HW Z a0) (hEL : EW Z a0 [("java/lang/String", 7)]) (h0 : Heap) (hE0 : Ext Z.heap h0) (ii : Int32) (ta : Addr) (k_ta : ClassId) (vs : List Value) (fm : Value) (SFM : Sta Z Z.heap "jdk/internal/util/Preconditions" "SIOOBE_FORMATTER" "Ljava/util/function/BiFunction;" fm) (rfm : fm.isRef = true) (A_t : Arv Z h0 ta k_ta .byte (4 : Int32) vs (.int (0 : Int32))) (h1 : ¬ ii < 0) (h2 : ii < (2 : Int32)) :
    Con l Z [("java/lang/String", 7)] [] (⟨"java/lang/StringUTF16", "checkIndex", "(I[B)V"⟩ : MethodName) jdk_52_method_91_code 2 none [] (⟨2, 0, 0, 27⟩ : Room) #[(.int ii), (.ref ta)] h0 (fun v h' => v = none ∧ h' = h0) := by
  refine Con.mk (plainFor_of_name pn_1) hEL hE0 (fun x hx => by cases hx) ?_
  intro p e s m below meth c T0 hby hml hret hnm W0
  rw [(show entryFrame m #[(.int ii), (.ref ta)] 2 = mkF m 0 #[.val (.int ii), .val (.ref ta)] [] from by first | (simp [entryFrame, mkF, argsToLocals, Value.category]; done) | rfl)]
  refine Go.by (fun t9_ q9_ => XS.iloadN W0.here W0.hx rfl (hb hby dc14_0) rfl (XS.aloadN W0.here W0.hx rfl (hb hby dc14_1) rfl rfl q9_)) ?_
  show Go _ _ _ _ _ _ _ _ _ (T0.setTop (mkF m 2 #[.val (.int ii), .val (.ref ta)] [(.ref ta), (.int ii)]))
  refine W0.callSp (y := (⟨"java/lang/StringUTF16", "length", "([B)I"⟩ : MethodName)) (wd97 hw) (wd98 hw) (wd37 hw) (wd99 hw) (by decide) (c_l16_2 l Z a0 hw hEL h0 hE0 ta k_ta vs A_t) all0 (by decide) (by decide) (k' := 0) (n' := 0) rfl rfl (by decide) (by decide) (by rw [hml]; rfl) (argsL := [(.ref ta)]) (rest := [(.int ii)]) (lenOf pd_9 rfl) rfl rfl (Wt := 1) (Nat.le_of_eq rfl) (hb hby dc14_2) ?_
  intro T600 W601
  show Go _ _ _ _ _ _ _ _ _ (T600.setTop (mkF m 5 #[.val (.int ii), .val (.ref ta)] [(.int (2 : Int32)), (.int ii)]))
  refine W601.callSp (y := (⟨"java/lang/String", "checkIndex", "(II)V"⟩ : MethodName)) (wd100 hw) (wd101 hw) (wd10 hw) (wd102 hw) (by decide) (c_sci l Z a0 hw hEL h0 W601.old ii (2 : Int32) fm SFM rfm h1 h2) all0 (by decide) (by decide) (k' := 0) (n' := 0) rfl rfl (by decide) (by decide) (by rw [hml]; rfl) (argsL := [(.int ii), (.int (2 : Int32))]) (rest := []) (lenOf pd_10 rfl) rfl rfl (Wt := 0) (Nat.le_of_eq rfl) (hb hby dc14_5) ?_
  intro T602 W603
  show Go _ _ _ _ _ _ _ _ _ (T602.setTop (mkF m 8 #[.val (.int ii), .val (.ref ta)] []))
  exact W603.retV (by decide) (by decide) hret (hb hby dc14_8) ⟨rfl, rfl⟩
theorem c_uca2_0 (l : Launch) (Z : State) (a0 : Array Value) (hw : HW Z a0) (hEL : EW Z a0 [("java/lang/String", 7)]) (h0 : Heap) (hE0 : Ext Z.heap h0) (ta : Addr) (k_ta : ClassId) (vs : List Value) (uu vv cc : Int32) (fm : Value) (PSH : PS3 Z) (SFM : Sta Z Z.heap "jdk/internal/util/Preconditions" "SIOOBE_FORMATTER" "Ljava/util/function/BiFunction;" fm) (rfm : fm.isRef = true) (A_t : Arv Z h0 ta k_ta .byte (4 : Int32) vs (.int (0 : Int32))) (hu : vs.getD 0 (.int (0 : Int32)) = .int uu) (hv : vs.getD 1 (.int (0 : Int32)) = .int vv) (hp : StrChars.pairCh uu vv = cc) (r_c : ¬ cc < 0 ∧ ¬ (65535 : Int32) < cc) :
    Con l Z [("java/lang/String", 7)] [] (⟨"java/lang/StringUTF16", "charAt", "([BI)C"⟩ : MethodName) jdk_52_method_83_code 2 (some .char) [] (⟨3, 0, 0, 40⟩ : Room) #[(.ref ta), (.int (0 : Int32))] h0 (fun v h' => v = (some (.int cc)) ∧ h' = h0) := by
  refine Con.mk (plainFor_of_name pn_1) hEL hE0 (fun x hx => by cases hx) ?_
  intro p e s m below meth c T0 hby hml hret hnm W0
  rw [(show entryFrame m #[(.ref ta), (.int (0 : Int32))] 2 = mkF m 0 #[.val (.ref ta), .val (.int (0 : Int32))] [] from by first | (simp [entryFrame, mkF, argsToLocals, Value.category]; done) | rfl)]
  refine Go.by (fun t9_ q9_ => XS.iloadN W0.here W0.hx rfl (hb hby dc15_0) rfl (XS.aloadN W0.here W0.hx rfl (hb hby dc15_1) rfl rfl q9_)) ?_
  show Go _ _ _ _ _ _ _ _ _ (T0.setTop (mkF m 2 #[.val (.ref ta), .val (.int (0 : Int32))] [(.ref ta), (.int (0 : Int32))]))
  refine W0.callSp (y := (⟨"java/lang/StringUTF16", "checkIndex", "(I[B)V"⟩ : MethodName)) (wd94 hw) (wd95 hw) (wd37 hw) (wd96 hw) (by decide) (c_uci2 l Z a0 hw hEL h0 hE0 (0 : Int32) ta k_ta vs fm SFM rfm A_t (by decide) (by decide)) all0 (by decide) (by decide) (k' := 0) (n' := 0) rfl rfl (by decide) (by decide) (by rw [hml]; rfl) (argsL := [(.int (0 : Int32)), (.ref ta)]) (rest := []) (lenOf pd_11 rfl) rfl rfl (Wt := 0) (Nat.le_of_eq rfl) (hb hby dc15_2) ?_
  intro T604 W605
  refine Go.by (fun t9_ q9_ => XS.aloadN W605.here W605.hx rfl (hb hby dc15_5) rfl rfl (XS.iloadN W605.here W605.hx rfl (hb hby dc15_6) rfl q9_)) ?_
  show Go _ _ _ _ _ _ _ _ _ (T604.setTop (mkF m 7 #[.val (.ref ta), .val (.int (0 : Int32))] [(.int (0 : Int32)), (.ref ta)]))
  refine W605.callSp (y := (⟨"java/lang/StringUTF16", "getChar", "([BI)C"⟩ : MethodName)) (wd61 hw) (wd62 hw) (wd37 hw) (wd63 hw) (by decide) (c_get2_0 l Z a0 hw hEL h0 W605.old ta k_ta vs uu vv cc PSH A_t hu hv hp r_c) all0 (by decide) (by decide) (k' := 0) (n' := 0) rfl rfl (by decide) (by decide) (by rw [hml]; rfl) (argsL := [(.ref ta), (.int (0 : Int32))]) (rest := []) (lenOf pd_6 rfl) rfl rfl (Wt := 0) (Nat.le_of_eq rfl) (hb hby dc15_7) ?_
  intro T606 W607
  show Go _ _ _ _ _ _ _ _ _ (T606.setTop (mkF m 10 #[.val (.ref ta), .val (.int (0 : Int32))] [(.int cc)]))
  exact W607.retN (z' := cc) (by decide) (by decide) hret (by simp) (hb hby dc15_10) (nar_id r_c) ⟨rfl, rfl⟩
theorem c_uca2_1 (l : Launch) (Z : State) (a0 : Array Value) (hw : HW Z a0) (hEL : EW Z a0 [("java/lang/String", 7)]) (h0 : Heap) (hE0 : Ext Z.heap h0) (ta : Addr) (k_ta : ClassId) (vs : List Value) (uu vv cc : Int32) (fm : Value) (PSH : PS3 Z) (SFM : Sta Z Z.heap "jdk/internal/util/Preconditions" "SIOOBE_FORMATTER" "Ljava/util/function/BiFunction;" fm) (rfm : fm.isRef = true) (A_t : Arv Z h0 ta k_ta .byte (4 : Int32) vs (.int (0 : Int32))) (hu : vs.getD 2 (.int (0 : Int32)) = .int uu) (hv : vs.getD 3 (.int (0 : Int32)) = .int vv) (hp : StrChars.pairCh uu vv = cc) (r_c : ¬ cc < 0 ∧ ¬ (65535 : Int32) < cc) :
    Con l Z [("java/lang/String", 7)] [] (⟨"java/lang/StringUTF16", "charAt", "([BI)C"⟩ : MethodName) jdk_52_method_83_code 2 (some .char) [] (⟨3, 0, 0, 40⟩ : Room) #[(.ref ta), (.int (1 : Int32))] h0 (fun v h' => v = (some (.int cc)) ∧ h' = h0) := by
  refine Con.mk (plainFor_of_name pn_1) hEL hE0 (fun x hx => by cases hx) ?_
  intro p e s m below meth c T0 hby hml hret hnm W0
  rw [(show entryFrame m #[(.ref ta), (.int (1 : Int32))] 2 = mkF m 0 #[.val (.ref ta), .val (.int (1 : Int32))] [] from by first | (simp [entryFrame, mkF, argsToLocals, Value.category]; done) | rfl)]
  refine Go.by (fun t9_ q9_ => XS.iloadN W0.here W0.hx rfl (hb hby dc15_0) rfl (XS.aloadN W0.here W0.hx rfl (hb hby dc15_1) rfl rfl q9_)) ?_
  show Go _ _ _ _ _ _ _ _ _ (T0.setTop (mkF m 2 #[.val (.ref ta), .val (.int (1 : Int32))] [(.ref ta), (.int (1 : Int32))]))
  refine W0.callSp (y := (⟨"java/lang/StringUTF16", "checkIndex", "(I[B)V"⟩ : MethodName)) (wd94 hw) (wd95 hw) (wd37 hw) (wd96 hw) (by decide) (c_uci2 l Z a0 hw hEL h0 hE0 (1 : Int32) ta k_ta vs fm SFM rfm A_t (by decide) (by decide)) all0 (by decide) (by decide) (k' := 0) (n' := 0) rfl rfl (by decide) (by decide) (by rw [hml]; rfl) (argsL := [(.int (1 : Int32)), (.ref ta)]) (rest := []) (lenOf pd_11 rfl) rfl rfl (Wt := 0) (Nat.le_of_eq rfl) (hb hby dc15_2) ?_
  intro T608 W609
  refine Go.by (fun t9_ q9_ => XS.aloadN W609.here W609.hx rfl (hb hby dc15_5) rfl rfl (XS.iloadN W609.here W609.hx rfl (hb hby dc15_6) rfl q9_)) ?_
  show Go _ _ _ _ _ _ _ _ _ (T608.setTop (mkF m 7 #[.val (.ref ta), .val (.int (1 : Int32))] [(.int (1 : Int32)), (.ref ta)]))
  refine W609.callSp (y := (⟨"java/lang/StringUTF16", "getChar", "([BI)C"⟩ : MethodName)) (wd61 hw) (wd62 hw) (wd37 hw) (wd63 hw) (by decide) (c_get2_1 l Z a0 hw hEL h0 W609.old ta k_ta vs uu vv cc PSH A_t hu hv hp r_c) all0 (by decide) (by decide) (k' := 0) (n' := 0) rfl rfl (by decide) (by decide) (by rw [hml]; rfl) (argsL := [(.ref ta), (.int (1 : Int32))]) (rest := []) (lenOf pd_6 rfl) rfl rfl (Wt := 0) (Nat.le_of_eq rfl) (hb hby dc15_7) ?_
  intro T610 W611
  show Go _ _ _ _ _ _ _ _ _ (T610.setTop (mkF m 10 #[.val (.ref ta), .val (.int (1 : Int32))] [(.int cc)]))
  exact W611.retN (z' := cc) (by decide) (by decide) hret (by simp) (hb hby dc15_10) (nar_id r_c) ⟨rfl, rfl⟩
theorem c_l16_3 (l : Launch) (Z : State) (a0 : Array Value) (hw : HW Z a0) (hEL : EW Z a0 [("java/lang/String", 7)]) (h0 : Heap) (hE0 : Ext Z.heap h0) (ta : Addr) (k_ta : ClassId) (vs : List Value) (A_t : Arv Z h0 ta k_ta .byte (6 : Int32) vs (.int (0 : Int32))) :
    Con l Z [("java/lang/String", 7)] [] (⟨"java/lang/StringUTF16", "length", "([B)I"⟩ : MethodName) jdk_52_method_6_code 1 (some .int) [] (⟨0, 0, 0, 0⟩ : Room) #[(.ref ta)] h0 (fun v h' => v = (some (.int (3 : Int32))) ∧ h' = h0) := by
  refine Con.mk (plainFor_of_name pn_1) hEL hE0 (fun x hx => by cases hx) ?_
  intro p e s m below meth c T0 hby hml hret hnm W0
  rw [(show entryFrame m #[(.ref ta)] 1 = mkF m 0 #[.val (.ref ta)] [] from by first | (simp [entryFrame, mkF, argsToLocals, Value.category]; done) | rfl)]
  refine Go.by (fun t9_ q9_ => XS.aloadN W0.here W0.hx rfl (hb hby dc13_0) rfl rfl q9_) ?_
  show Go _ _ _ _ _ _ _ _ _ (T0.setTop (mkF m 1 #[.val (.ref ta)] [(.ref ta)]))
  refine W0.alen A_t (hb hby dc13_1) ?_
  refine Go.by (fun t9_ q9_ => XS.iconst W0.here W0.hx rfl (hb hby dc13_2) (XS.ishr W0.here W0.hx rfl (hb hby dc13_3) rfl q9_)) ?_
  show Go _ _ _ _ _ _ _ _ _ (T0.setTop (mkF m 4 #[.val (.ref ta)] [(.int ((6 : Int32) >>> ((1 : Int32) &&& 31)))]))
  rw [show ((6 : Int32) >>> ((1 : Int32) &&& 31)) = (3 : Int32) from by decide]
  show Go _ _ _ _ _ _ _ _ _ (T0.setTop (mkF m 4 #[.val (.ref ta)] [(.int (3 : Int32))]))
  exact W0.retI (by decide) (by decide) hret (hb hby dc13_4) ⟨rfl, rfl⟩
theorem c_uci3 (l : Launch) (Z : State) (a0 : Array Value) (hw : HW Z a0) (hEL : EW Z a0 [("java/lang/String", 7)]) (h0 : Heap) (hE0 : Ext Z.heap h0) (ii : Int32) (ta : Addr) (k_ta : ClassId) (vs : List Value) (fm : Value) (SFM : Sta Z Z.heap "jdk/internal/util/Preconditions" "SIOOBE_FORMATTER" "Ljava/util/function/BiFunction;" fm) (rfm : fm.isRef = true) (A_t : Arv Z h0 ta k_ta .byte (6 : Int32) vs (.int (0 : Int32))) (h1 : ¬ ii < 0) (h2 : ii < (3 : Int32)) :
    Con l Z [("java/lang/String", 7)] [] (⟨"java/lang/StringUTF16", "checkIndex", "(I[B)V"⟩ : MethodName) jdk_52_method_91_code 2 none [] (⟨2, 0, 0, 27⟩ : Room) #[(.int ii), (.ref ta)] h0 (fun v h' => v = none ∧ h' = h0) := by
  refine Con.mk (plainFor_of_name pn_1) hEL hE0 (fun x hx => by cases hx) ?_
  intro p e s m below meth c T0 hby hml hret hnm W0
  rw [(show entryFrame m #[(.int ii), (.ref ta)] 2 = mkF m 0 #[.val (.int ii), .val (.ref ta)] [] from by first | (simp [entryFrame, mkF, argsToLocals, Value.category]; done) | rfl)]
  refine Go.by (fun t9_ q9_ => XS.iloadN W0.here W0.hx rfl (hb hby dc14_0) rfl (XS.aloadN W0.here W0.hx rfl (hb hby dc14_1) rfl rfl q9_)) ?_
  show Go _ _ _ _ _ _ _ _ _ (T0.setTop (mkF m 2 #[.val (.int ii), .val (.ref ta)] [(.ref ta), (.int ii)]))
  refine W0.callSp (y := (⟨"java/lang/StringUTF16", "length", "([B)I"⟩ : MethodName)) (wd97 hw) (wd98 hw) (wd37 hw) (wd99 hw) (by decide) (c_l16_3 l Z a0 hw hEL h0 hE0 ta k_ta vs A_t) all0 (by decide) (by decide) (k' := 0) (n' := 0) rfl rfl (by decide) (by decide) (by rw [hml]; rfl) (argsL := [(.ref ta)]) (rest := [(.int ii)]) (lenOf pd_9 rfl) rfl rfl (Wt := 1) (Nat.le_of_eq rfl) (hb hby dc14_2) ?_
  intro T612 W613
  show Go _ _ _ _ _ _ _ _ _ (T612.setTop (mkF m 5 #[.val (.int ii), .val (.ref ta)] [(.int (3 : Int32)), (.int ii)]))
  refine W613.callSp (y := (⟨"java/lang/String", "checkIndex", "(II)V"⟩ : MethodName)) (wd100 hw) (wd101 hw) (wd10 hw) (wd102 hw) (by decide) (c_sci l Z a0 hw hEL h0 W613.old ii (3 : Int32) fm SFM rfm h1 h2) all0 (by decide) (by decide) (k' := 0) (n' := 0) rfl rfl (by decide) (by decide) (by rw [hml]; rfl) (argsL := [(.int ii), (.int (3 : Int32))]) (rest := []) (lenOf pd_10 rfl) rfl rfl (Wt := 0) (Nat.le_of_eq rfl) (hb hby dc14_5) ?_
  intro T614 W615
  show Go _ _ _ _ _ _ _ _ _ (T614.setTop (mkF m 8 #[.val (.int ii), .val (.ref ta)] []))
  exact W615.retV (by decide) (by decide) hret (hb hby dc14_8) ⟨rfl, rfl⟩
theorem c_uca3_0 (l : Launch) (Z : State) (a0 : Array Value) (hw : HW Z a0) (hEL : EW Z a0 [("java/lang/String", 7)]) (h0 : Heap) (hE0 : Ext Z.heap h0) (ta : Addr) (k_ta : ClassId) (vs : List Value) (uu vv cc : Int32) (fm : Value) (PSH : PS3 Z) (SFM : Sta Z Z.heap "jdk/internal/util/Preconditions" "SIOOBE_FORMATTER" "Ljava/util/function/BiFunction;" fm) (rfm : fm.isRef = true) (A_t : Arv Z h0 ta k_ta .byte (6 : Int32) vs (.int (0 : Int32))) (hu : vs.getD 0 (.int (0 : Int32)) = .int uu) (hv : vs.getD 1 (.int (0 : Int32)) = .int vv) (hp : StrChars.pairCh uu vv = cc) (r_c : ¬ cc < 0 ∧ ¬ (65535 : Int32) < cc) :
    Con l Z [("java/lang/String", 7)] [] (⟨"java/lang/StringUTF16", "charAt", "([BI)C"⟩ : MethodName) jdk_52_method_83_code 2 (some .char) [] (⟨3, 0, 0, 40⟩ : Room) #[(.ref ta), (.int (0 : Int32))] h0 (fun v h' => v = (some (.int cc)) ∧ h' = h0) := by
  refine Con.mk (plainFor_of_name pn_1) hEL hE0 (fun x hx => by cases hx) ?_
  intro p e s m below meth c T0 hby hml hret hnm W0
  rw [(show entryFrame m #[(.ref ta), (.int (0 : Int32))] 2 = mkF m 0 #[.val (.ref ta), .val (.int (0 : Int32))] [] from by first | (simp [entryFrame, mkF, argsToLocals, Value.category]; done) | rfl)]
  refine Go.by (fun t9_ q9_ => XS.iloadN W0.here W0.hx rfl (hb hby dc15_0) rfl (XS.aloadN W0.here W0.hx rfl (hb hby dc15_1) rfl rfl q9_)) ?_
  show Go _ _ _ _ _ _ _ _ _ (T0.setTop (mkF m 2 #[.val (.ref ta), .val (.int (0 : Int32))] [(.ref ta), (.int (0 : Int32))]))
  refine W0.callSp (y := (⟨"java/lang/StringUTF16", "checkIndex", "(I[B)V"⟩ : MethodName)) (wd94 hw) (wd95 hw) (wd37 hw) (wd96 hw) (by decide) (c_uci3 l Z a0 hw hEL h0 hE0 (0 : Int32) ta k_ta vs fm SFM rfm A_t (by decide) (by decide)) all0 (by decide) (by decide) (k' := 0) (n' := 0) rfl rfl (by decide) (by decide) (by rw [hml]; rfl) (argsL := [(.int (0 : Int32)), (.ref ta)]) (rest := []) (lenOf pd_11 rfl) rfl rfl (Wt := 0) (Nat.le_of_eq rfl) (hb hby dc15_2) ?_
  intro T616 W617
  refine Go.by (fun t9_ q9_ => XS.aloadN W617.here W617.hx rfl (hb hby dc15_5) rfl rfl (XS.iloadN W617.here W617.hx rfl (hb hby dc15_6) rfl q9_)) ?_
  show Go _ _ _ _ _ _ _ _ _ (T616.setTop (mkF m 7 #[.val (.ref ta), .val (.int (0 : Int32))] [(.int (0 : Int32)), (.ref ta)]))
  refine W617.callSp (y := (⟨"java/lang/StringUTF16", "getChar", "([BI)C"⟩ : MethodName)) (wd61 hw) (wd62 hw) (wd37 hw) (wd63 hw) (by decide) (c_get3_0 l Z a0 hw hEL h0 W617.old ta k_ta vs uu vv cc PSH A_t hu hv hp r_c) all0 (by decide) (by decide) (k' := 0) (n' := 0) rfl rfl (by decide) (by decide) (by rw [hml]; rfl) (argsL := [(.ref ta), (.int (0 : Int32))]) (rest := []) (lenOf pd_6 rfl) rfl rfl (Wt := 0) (Nat.le_of_eq rfl) (hb hby dc15_7) ?_
  intro T618 W619
  show Go _ _ _ _ _ _ _ _ _ (T618.setTop (mkF m 10 #[.val (.ref ta), .val (.int (0 : Int32))] [(.int cc)]))
  exact W619.retN (z' := cc) (by decide) (by decide) hret (by simp) (hb hby dc15_10) (nar_id r_c) ⟨rfl, rfl⟩
theorem c_uca3_1 (l : Launch) (Z : State) (a0 : Array Value) (hw : HW Z a0) (hEL : EW Z a0 [("java/lang/String", 7)]) (h0 : Heap) (hE0 : Ext Z.heap h0) (ta : Addr) (k_ta : ClassId) (vs : List Value) (uu vv cc : Int32) (fm : Value) (PSH : PS3 Z) (SFM : Sta Z Z.heap "jdk/internal/util/Preconditions" "SIOOBE_FORMATTER" "Ljava/util/function/BiFunction;" fm) (rfm : fm.isRef = true) (A_t : Arv Z h0 ta k_ta .byte (6 : Int32) vs (.int (0 : Int32))) (hu : vs.getD 2 (.int (0 : Int32)) = .int uu) (hv : vs.getD 3 (.int (0 : Int32)) = .int vv) (hp : StrChars.pairCh uu vv = cc) (r_c : ¬ cc < 0 ∧ ¬ (65535 : Int32) < cc) :
    Con l Z [("java/lang/String", 7)] [] (⟨"java/lang/StringUTF16", "charAt", "([BI)C"⟩ : MethodName) jdk_52_method_83_code 2 (some .char) [] (⟨3, 0, 0, 40⟩ : Room) #[(.ref ta), (.int (1 : Int32))] h0 (fun v h' => v = (some (.int cc)) ∧ h' = h0) := by
  refine Con.mk (plainFor_of_name pn_1) hEL hE0 (fun x hx => by cases hx) ?_
  intro p e s m below meth c T0 hby hml hret hnm W0
  rw [(show entryFrame m #[(.ref ta), (.int (1 : Int32))] 2 = mkF m 0 #[.val (.ref ta), .val (.int (1 : Int32))] [] from by first | (simp [entryFrame, mkF, argsToLocals, Value.category]; done) | rfl)]
  refine Go.by (fun t9_ q9_ => XS.iloadN W0.here W0.hx rfl (hb hby dc15_0) rfl (XS.aloadN W0.here W0.hx rfl (hb hby dc15_1) rfl rfl q9_)) ?_
  show Go _ _ _ _ _ _ _ _ _ (T0.setTop (mkF m 2 #[.val (.ref ta), .val (.int (1 : Int32))] [(.ref ta), (.int (1 : Int32))]))
  refine W0.callSp (y := (⟨"java/lang/StringUTF16", "checkIndex", "(I[B)V"⟩ : MethodName)) (wd94 hw) (wd95 hw) (wd37 hw) (wd96 hw) (by decide) (c_uci3 l Z a0 hw hEL h0 hE0 (1 : Int32) ta k_ta vs fm SFM rfm A_t (by decide) (by decide)) all0 (by decide) (by decide) (k' := 0) (n' := 0) rfl rfl (by decide) (by decide) (by rw [hml]; rfl) (argsL := [(.int (1 : Int32)), (.ref ta)]) (rest := []) (lenOf pd_11 rfl) rfl rfl (Wt := 0) (Nat.le_of_eq rfl) (hb hby dc15_2) ?_
  intro T620 W621
  refine Go.by (fun t9_ q9_ => XS.aloadN W621.here W621.hx rfl (hb hby dc15_5) rfl rfl (XS.iloadN W621.here W621.hx rfl (hb hby dc15_6) rfl q9_)) ?_
  show Go _ _ _ _ _ _ _ _ _ (T620.setTop (mkF m 7 #[.val (.ref ta), .val (.int (1 : Int32))] [(.int (1 : Int32)), (.ref ta)]))
  refine W621.callSp (y := (⟨"java/lang/StringUTF16", "getChar", "([BI)C"⟩ : MethodName)) (wd61 hw) (wd62 hw) (wd37 hw) (wd63 hw) (by decide) (c_get3_1 l Z a0 hw hEL h0 W621.old ta k_ta vs uu vv cc PSH A_t hu hv hp r_c) all0 (by decide) (by decide) (k' := 0) (n' := 0) rfl rfl (by decide) (by decide) (by rw [hml]; rfl) (argsL := [(.ref ta), (.int (1 : Int32))]) (rest := []) (lenOf pd_6 rfl) rfl rfl (Wt := 0) (Nat.le_of_eq rfl) (hb hby dc15_7) ?_
  intro T622 W623
  show Go _ _ _ _ _ _ _ _ _ (T622.setTop (mkF m 10 #[.val (.ref ta), .val (.int (1 : Int32))] [(.int cc)]))
  exact W623.retN (z' := cc) (by decide) (by decide) hret (by simp) (hb hby dc15_10) (nar_id r_c) ⟨rfl, rfl⟩
theorem c_uca3_2 (l : Launch) (Z : State) (a0 : Array Value) (hw : HW Z a0) (hEL : EW Z a0 [("java/lang/String", 7)]) (h0 : Heap) (hE0 : Ext Z.heap h0) (ta : Addr) (k_ta : ClassId) (vs : List Value) (uu vv cc : Int32) (fm : Value) (PSH : PS3 Z) (SFM : Sta Z Z.heap "jdk/internal/util/Preconditions" "SIOOBE_FORMATTER" "Ljava/util/function/BiFunction;" fm) (rfm : fm.isRef = true) (A_t : Arv Z h0 ta k_ta .byte (6 : Int32) vs (.int (0 : Int32))) (hu : vs.getD 4 (.int (0 : Int32)) = .int uu) (hv : vs.getD 5 (.int (0 : Int32)) = .int vv) (hp : StrChars.pairCh uu vv = cc) (r_c : ¬ cc < 0 ∧ ¬ (65535 : Int32) < cc) :
    Con l Z [("java/lang/String", 7)] [] (⟨"java/lang/StringUTF16", "charAt", "([BI)C"⟩ : MethodName) jdk_52_method_83_code 2 (some .char) [] (⟨3, 0, 0, 40⟩ : Room) #[(.ref ta), (.int (2 : Int32))] h0 (fun v h' => v = (some (.int cc)) ∧ h' = h0) := by
  refine Con.mk (plainFor_of_name pn_1) hEL hE0 (fun x hx => by cases hx) ?_
  intro p e s m below meth c T0 hby hml hret hnm W0
  rw [(show entryFrame m #[(.ref ta), (.int (2 : Int32))] 2 = mkF m 0 #[.val (.ref ta), .val (.int (2 : Int32))] [] from by first | (simp [entryFrame, mkF, argsToLocals, Value.category]; done) | rfl)]
  refine Go.by (fun t9_ q9_ => XS.iloadN W0.here W0.hx rfl (hb hby dc15_0) rfl (XS.aloadN W0.here W0.hx rfl (hb hby dc15_1) rfl rfl q9_)) ?_
  show Go _ _ _ _ _ _ _ _ _ (T0.setTop (mkF m 2 #[.val (.ref ta), .val (.int (2 : Int32))] [(.ref ta), (.int (2 : Int32))]))
  refine W0.callSp (y := (⟨"java/lang/StringUTF16", "checkIndex", "(I[B)V"⟩ : MethodName)) (wd94 hw) (wd95 hw) (wd37 hw) (wd96 hw) (by decide) (c_uci3 l Z a0 hw hEL h0 hE0 (2 : Int32) ta k_ta vs fm SFM rfm A_t (by decide) (by decide)) all0 (by decide) (by decide) (k' := 0) (n' := 0) rfl rfl (by decide) (by decide) (by rw [hml]; rfl) (argsL := [(.int (2 : Int32)), (.ref ta)]) (rest := []) (lenOf pd_11 rfl) rfl rfl (Wt := 0) (Nat.le_of_eq rfl) (hb hby dc15_2) ?_
  intro T624 W625
  refine Go.by (fun t9_ q9_ => XS.aloadN W625.here W625.hx rfl (hb hby dc15_5) rfl rfl (XS.iloadN W625.here W625.hx rfl (hb hby dc15_6) rfl q9_)) ?_
  show Go _ _ _ _ _ _ _ _ _ (T624.setTop (mkF m 7 #[.val (.ref ta), .val (.int (2 : Int32))] [(.int (2 : Int32)), (.ref ta)]))
  refine W625.callSp (y := (⟨"java/lang/StringUTF16", "getChar", "([BI)C"⟩ : MethodName)) (wd61 hw) (wd62 hw) (wd37 hw) (wd63 hw) (by decide) (c_get3_2 l Z a0 hw hEL h0 W625.old ta k_ta vs uu vv cc PSH A_t hu hv hp r_c) all0 (by decide) (by decide) (k' := 0) (n' := 0) rfl rfl (by decide) (by decide) (by rw [hml]; rfl) (argsL := [(.ref ta), (.int (2 : Int32))]) (rest := []) (lenOf pd_6 rfl) rfl rfl (Wt := 0) (Nat.le_of_eq rfl) (hb hby dc15_7) ?_
  intro T626 W627
  show Go _ _ _ _ _ _ _ _ _ (T626.setTop (mkF m 10 #[.val (.ref ta), .val (.int (2 : Int32))] [(.int cc)]))
  exact W627.retN (z' := cc) (by decide) (by decide) hret (by simp) (hb hby dc15_10) (nar_id r_c) ⟨rfl, rfl⟩
theorem c_l16_4 (l : Launch) (Z : State) (a0 : Array Value) (hw : HW Z a0) (hEL : EW Z a0 [("java/lang/String", 7)]) (h0 : Heap) (hE0 : Ext Z.heap h0) (ta : Addr) (k_ta : ClassId) (vs : List Value) (A_t : Arv Z h0 ta k_ta .byte (8 : Int32) vs (.int (0 : Int32))) :
    Con l Z [("java/lang/String", 7)] [] (⟨"java/lang/StringUTF16", "length", "([B)I"⟩ : MethodName) jdk_52_method_6_code 1 (some .int) [] (⟨0, 0, 0, 0⟩ : Room) #[(.ref ta)] h0 (fun v h' => v = (some (.int (4 : Int32))) ∧ h' = h0) := by
  refine Con.mk (plainFor_of_name pn_1) hEL hE0 (fun x hx => by cases hx) ?_
  intro p e s m below meth c T0 hby hml hret hnm W0
  rw [(show entryFrame m #[(.ref ta)] 1 = mkF m 0 #[.val (.ref ta)] [] from by first | (simp [entryFrame, mkF, argsToLocals, Value.category]; done) | rfl)]
  refine Go.by (fun t9_ q9_ => XS.aloadN W0.here W0.hx rfl (hb hby dc13_0) rfl rfl q9_) ?_
  show Go _ _ _ _ _ _ _ _ _ (T0.setTop (mkF m 1 #[.val (.ref ta)] [(.ref ta)]))
  refine W0.alen A_t (hb hby dc13_1) ?_
  refine Go.by (fun t9_ q9_ => XS.iconst W0.here W0.hx rfl (hb hby dc13_2) (XS.ishr W0.here W0.hx rfl (hb hby dc13_3) rfl q9_)) ?_
  show Go _ _ _ _ _ _ _ _ _ (T0.setTop (mkF m 4 #[.val (.ref ta)] [(.int ((8 : Int32) >>> ((1 : Int32) &&& 31)))]))
  rw [show ((8 : Int32) >>> ((1 : Int32) &&& 31)) = (4 : Int32) from by decide]
  show Go _ _ _ _ _ _ _ _ _ (T0.setTop (mkF m 4 #[.val (.ref ta)] [(.int (4 : Int32))]))
  exact W0.retI (by decide) (by decide) hret (hb hby dc13_4) ⟨rfl, rfl⟩
theorem c_uci4 (l : Launch) (Z : State) (a0 : Array Value) (hw : HW Z a0) (hEL : EW Z a0 [("java/lang/String", 7)]) (h0 : Heap) (hE0 : Ext Z.heap h0) (ii : Int32) (ta : Addr) (k_ta : ClassId) (vs : List Value) (fm : Value) (SFM : Sta Z Z.heap "jdk/internal/util/Preconditions" "SIOOBE_FORMATTER" "Ljava/util/function/BiFunction;" fm) (rfm : fm.isRef = true) (A_t : Arv Z h0 ta k_ta .byte (8 : Int32) vs (.int (0 : Int32))) (h1 : ¬ ii < 0) (h2 : ii < (4 : Int32)) :
    Con l Z [("java/lang/String", 7)] [] (⟨"java/lang/StringUTF16", "checkIndex", "(I[B)V"⟩ : MethodName) jdk_52_method_91_code 2 none [] (⟨2, 0, 0, 27⟩ : Room) #[(.int ii), (.ref ta)] h0 (fun v h' => v = none ∧ h' = h0) := by
  refine Con.mk (plainFor_of_name pn_1) hEL hE0 (fun x hx => by cases hx) ?_
  intro p e s m below meth c T0 hby hml hret hnm W0
  rw [(show entryFrame m #[(.int ii), (.ref ta)] 2 = mkF m 0 #[.val (.int ii), .val (.ref ta)] [] from by first | (simp [entryFrame, mkF, argsToLocals, Value.category]; done) | rfl)]
  refine Go.by (fun t9_ q9_ => XS.iloadN W0.here W0.hx rfl (hb hby dc14_0) rfl (XS.aloadN W0.here W0.hx rfl (hb hby dc14_1) rfl rfl q9_)) ?_
  show Go _ _ _ _ _ _ _ _ _ (T0.setTop (mkF m 2 #[.val (.int ii), .val (.ref ta)] [(.ref ta), (.int ii)]))
  refine W0.callSp (y := (⟨"java/lang/StringUTF16", "length", "([B)I"⟩ : MethodName)) (wd97 hw) (wd98 hw) (wd37 hw) (wd99 hw) (by decide) (c_l16_4 l Z a0 hw hEL h0 hE0 ta k_ta vs A_t) all0 (by decide) (by decide) (k' := 0) (n' := 0) rfl rfl (by decide) (by decide) (by rw [hml]; rfl) (argsL := [(.ref ta)]) (rest := [(.int ii)]) (lenOf pd_9 rfl) rfl rfl (Wt := 1) (Nat.le_of_eq rfl) (hb hby dc14_2) ?_
  intro T628 W629
  show Go _ _ _ _ _ _ _ _ _ (T628.setTop (mkF m 5 #[.val (.int ii), .val (.ref ta)] [(.int (4 : Int32)), (.int ii)]))
  refine W629.callSp (y := (⟨"java/lang/String", "checkIndex", "(II)V"⟩ : MethodName)) (wd100 hw) (wd101 hw) (wd10 hw) (wd102 hw) (by decide) (c_sci l Z a0 hw hEL h0 W629.old ii (4 : Int32) fm SFM rfm h1 h2) all0 (by decide) (by decide) (k' := 0) (n' := 0) rfl rfl (by decide) (by decide) (by rw [hml]; rfl) (argsL := [(.int ii), (.int (4 : Int32))]) (rest := []) (lenOf pd_10 rfl) rfl rfl (Wt := 0) (Nat.le_of_eq rfl) (hb hby dc14_5) ?_
  intro T630 W631
  show Go _ _ _ _ _ _ _ _ _ (T630.setTop (mkF m 8 #[.val (.int ii), .val (.ref ta)] []))
  exact W631.retV (by decide) (by decide) hret (hb hby dc14_8) ⟨rfl, rfl⟩
theorem c_uca4_0 (l : Launch) (Z : State) (a0 : Array Value) (hw : HW Z a0) (hEL : EW Z a0 [("java/lang/String", 7)]) (h0 : Heap) (hE0 : Ext Z.heap h0) (ta : Addr) (k_ta : ClassId) (vs : List Value) (uu vv cc : Int32) (fm : Value) (PSH : PS3 Z) (SFM : Sta Z Z.heap "jdk/internal/util/Preconditions" "SIOOBE_FORMATTER" "Ljava/util/function/BiFunction;" fm) (rfm : fm.isRef = true) (A_t : Arv Z h0 ta k_ta .byte (8 : Int32) vs (.int (0 : Int32))) (hu : vs.getD 0 (.int (0 : Int32)) = .int uu) (hv : vs.getD 1 (.int (0 : Int32)) = .int vv) (hp : StrChars.pairCh uu vv = cc) (r_c : ¬ cc < 0 ∧ ¬ (65535 : Int32) < cc) :
    Con l Z [("java/lang/String", 7)] [] (⟨"java/lang/StringUTF16", "charAt", "([BI)C"⟩ : MethodName) jdk_52_method_83_code 2 (some .char) [] (⟨3, 0, 0, 40⟩ : Room) #[(.ref ta), (.int (0 : Int32))] h0 (fun v h' => v = (some (.int cc)) ∧ h' = h0) := by
  refine Con.mk (plainFor_of_name pn_1) hEL hE0 (fun x hx => by cases hx) ?_
  intro p e s m below meth c T0 hby hml hret hnm W0
  rw [(show entryFrame m #[(.ref ta), (.int (0 : Int32))] 2 = mkF m 0 #[.val (.ref ta), .val (.int (0 : Int32))] [] from by first | (simp [entryFrame, mkF, argsToLocals, Value.category]; done) | rfl)]
  refine Go.by (fun t9_ q9_ => XS.iloadN W0.here W0.hx rfl (hb hby dc15_0) rfl (XS.aloadN W0.here W0.hx rfl (hb hby dc15_1) rfl rfl q9_)) ?_
  show Go _ _ _ _ _ _ _ _ _ (T0.setTop (mkF m 2 #[.val (.ref ta), .val (.int (0 : Int32))] [(.ref ta), (.int (0 : Int32))]))
  refine W0.callSp (y := (⟨"java/lang/StringUTF16", "checkIndex", "(I[B)V"⟩ : MethodName)) (wd94 hw) (wd95 hw) (wd37 hw) (wd96 hw) (by decide) (c_uci4 l Z a0 hw hEL h0 hE0 (0 : Int32) ta k_ta vs fm SFM rfm A_t (by decide) (by decide)) all0 (by decide) (by decide) (k' := 0) (n' := 0) rfl rfl (by decide) (by decide) (by rw [hml]; rfl) (argsL := [(.int (0 : Int32)), (.ref ta)]) (rest := []) (lenOf pd_11 rfl) rfl rfl (Wt := 0) (Nat.le_of_eq rfl) (hb hby dc15_2) ?_
  intro T632 W633
  refine Go.by (fun t9_ q9_ => XS.aloadN W633.here W633.hx rfl (hb hby dc15_5) rfl rfl (XS.iloadN W633.here W633.hx rfl (hb hby dc15_6) rfl q9_)) ?_
  show Go _ _ _ _ _ _ _ _ _ (T632.setTop (mkF m 7 #[.val (.ref ta), .val (.int (0 : Int32))] [(.int (0 : Int32)), (.ref ta)]))
  refine W633.callSp (y := (⟨"java/lang/StringUTF16", "getChar", "([BI)C"⟩ : MethodName)) (wd61 hw) (wd62 hw) (wd37 hw) (wd63 hw) (by decide) (c_get4_0 l Z a0 hw hEL h0 W633.old ta k_ta vs uu vv cc PSH A_t hu hv hp r_c) all0 (by decide) (by decide) (k' := 0) (n' := 0) rfl rfl (by decide) (by decide) (by rw [hml]; rfl) (argsL := [(.ref ta), (.int (0 : Int32))]) (rest := []) (lenOf pd_6 rfl) rfl rfl (Wt := 0) (Nat.le_of_eq rfl) (hb hby dc15_7) ?_
  intro T634 W635
  show Go _ _ _ _ _ _ _ _ _ (T634.setTop (mkF m 10 #[.val (.ref ta), .val (.int (0 : Int32))] [(.int cc)]))
  exact W635.retN (z' := cc) (by decide) (by decide) hret (by simp) (hb hby dc15_10) (nar_id r_c) ⟨rfl, rfl⟩
theorem c_uca4_1 (l : Launch) (Z : State) (a0 : Array Value) (hw : HW Z a0) (hEL : EW Z a0 [("java/lang/String", 7)]) (h0 : Heap) (hE0 : Ext Z.heap h0) (ta : Addr) (k_ta : ClassId) (vs : List Value) (uu vv cc : Int32) (fm : Value) (PSH : PS3 Z) (SFM : Sta Z Z.heap "jdk/internal/util/Preconditions" "SIOOBE_FORMATTER" "Ljava/util/function/BiFunction;" fm) (rfm : fm.isRef = true) (A_t : Arv Z h0 ta k_ta .byte (8 : Int32) vs (.int (0 : Int32))) (hu : vs.getD 2 (.int (0 : Int32)) = .int uu) (hv : vs.getD 3 (.int (0 : Int32)) = .int vv) (hp : StrChars.pairCh uu vv = cc) (r_c : ¬ cc < 0 ∧ ¬ (65535 : Int32) < cc) :
    Con l Z [("java/lang/String", 7)] [] (⟨"java/lang/StringUTF16", "charAt", "([BI)C"⟩ : MethodName) jdk_52_method_83_code 2 (some .char) [] (⟨3, 0, 0, 40⟩ : Room) #[(.ref ta), (.int (1 : Int32))] h0 (fun v h' => v = (some (.int cc)) ∧ h' = h0) := by
  refine Con.mk (plainFor_of_name pn_1) hEL hE0 (fun x hx => by cases hx) ?_
  intro p e s m below meth c T0 hby hml hret hnm W0
  rw [(show entryFrame m #[(.ref ta), (.int (1 : Int32))] 2 = mkF m 0 #[.val (.ref ta), .val (.int (1 : Int32))] [] from by first | (simp [entryFrame, mkF, argsToLocals, Value.category]; done) | rfl)]
  refine Go.by (fun t9_ q9_ => XS.iloadN W0.here W0.hx rfl (hb hby dc15_0) rfl (XS.aloadN W0.here W0.hx rfl (hb hby dc15_1) rfl rfl q9_)) ?_
  show Go _ _ _ _ _ _ _ _ _ (T0.setTop (mkF m 2 #[.val (.ref ta), .val (.int (1 : Int32))] [(.ref ta), (.int (1 : Int32))]))
  refine W0.callSp (y := (⟨"java/lang/StringUTF16", "checkIndex", "(I[B)V"⟩ : MethodName)) (wd94 hw) (wd95 hw) (wd37 hw) (wd96 hw) (by decide) (c_uci4 l Z a0 hw hEL h0 hE0 (1 : Int32) ta k_ta vs fm SFM rfm A_t (by decide) (by decide)) all0 (by decide) (by decide) (k' := 0) (n' := 0) rfl rfl (by decide) (by decide) (by rw [hml]; rfl) (argsL := [(.int (1 : Int32)), (.ref ta)]) (rest := []) (lenOf pd_11 rfl) rfl rfl (Wt := 0) (Nat.le_of_eq rfl) (hb hby dc15_2) ?_
  intro T636 W637
  refine Go.by (fun t9_ q9_ => XS.aloadN W637.here W637.hx rfl (hb hby dc15_5) rfl rfl (XS.iloadN W637.here W637.hx rfl (hb hby dc15_6) rfl q9_)) ?_
  show Go _ _ _ _ _ _ _ _ _ (T636.setTop (mkF m 7 #[.val (.ref ta), .val (.int (1 : Int32))] [(.int (1 : Int32)), (.ref ta)]))
  refine W637.callSp (y := (⟨"java/lang/StringUTF16", "getChar", "([BI)C"⟩ : MethodName)) (wd61 hw) (wd62 hw) (wd37 hw) (wd63 hw) (by decide) (c_get4_1 l Z a0 hw hEL h0 W637.old ta k_ta vs uu vv cc PSH A_t hu hv hp r_c) all0 (by decide) (by decide) (k' := 0) (n' := 0) rfl rfl (by decide) (by decide) (by rw [hml]; rfl) (argsL := [(.ref ta), (.int (1 : Int32))]) (rest := []) (lenOf pd_6 rfl) rfl rfl (Wt := 0) (Nat.le_of_eq rfl) (hb hby dc15_7) ?_
  intro T638 W639
  show Go _ _ _ _ _ _ _ _ _ (T638.setTop (mkF m 10 #[.val (.ref ta), .val (.int (1 : Int32))] [(.int cc)]))
  exact W639.retN (z' := cc) (by decide) (by decide) hret (by simp) (hb hby dc15_10) (nar_id r_c) ⟨rfl, rfl⟩
theorem c_uca4_2 (l : Launch) (Z : State) (a0 : Array Value) (hw : HW Z a0) (hEL : EW Z a0 [("java/lang/String", 7)]) (h0 : Heap) (hE0 : Ext Z.heap h0) (ta : Addr) (k_ta : ClassId) (vs : List Value) (uu vv cc : Int32) (fm : Value) (PSH : PS3 Z) (SFM : Sta Z Z.heap "jdk/internal/util/Preconditions" "SIOOBE_FORMATTER" "Ljava/util/function/BiFunction;" fm) (rfm : fm.isRef = true) (A_t : Arv Z h0 ta k_ta .byte (8 : Int32) vs (.int (0 : Int32))) (hu : vs.getD 4 (.int (0 : Int32)) = .int uu) (hv : vs.getD 5 (.int (0 : Int32)) = .int vv) (hp : StrChars.pairCh uu vv = cc) (r_c : ¬ cc < 0 ∧ ¬ (65535 : Int32) < cc) :
    Con l Z [("java/lang/String", 7)] [] (⟨"java/lang/StringUTF16", "charAt", "([BI)C"⟩ : MethodName) jdk_52_method_83_code 2 (some .char) [] (⟨3, 0, 0, 40⟩ : Room) #[(.ref ta), (.int (2 : Int32))] h0 (fun v h' => v = (some (.int cc)) ∧ h' = h0) := by
  refine Con.mk (plainFor_of_name pn_1) hEL hE0 (fun x hx => by cases hx) ?_
  intro p e s m below meth c T0 hby hml hret hnm W0
  rw [(show entryFrame m #[(.ref ta), (.int (2 : Int32))] 2 = mkF m 0 #[.val (.ref ta), .val (.int (2 : Int32))] [] from by first | (simp [entryFrame, mkF, argsToLocals, Value.category]; done) | rfl)]
  refine Go.by (fun t9_ q9_ => XS.iloadN W0.here W0.hx rfl (hb hby dc15_0) rfl (XS.aloadN W0.here W0.hx rfl (hb hby dc15_1) rfl rfl q9_)) ?_
  show Go _ _ _ _ _ _ _ _ _ (T0.setTop (mkF m 2 #[.val (.ref ta), .val (.int (2 : Int32))] [(.ref ta), (.int (2 : Int32))]))
  refine W0.callSp (y := (⟨"java/lang/StringUTF16", "checkIndex", "(I[B)V"⟩ : MethodName)) (wd94 hw) (wd95 hw) (wd37 hw) (wd96 hw) (by decide) (c_uci4 l Z a0 hw hEL h0 hE0 (2 : Int32) ta k_ta vs fm SFM rfm A_t (by decide) (by decide)) all0 (by decide) (by decide) (k' := 0) (n' := 0) rfl rfl (by decide) (by decide) (by rw [hml]; rfl) (argsL := [(.int (2 : Int32)), (.ref ta)]) (rest := []) (lenOf pd_11 rfl) rfl rfl (Wt := 0) (Nat.le_of_eq rfl) (hb hby dc15_2) ?_
  intro T640 W641
  refine Go.by (fun t9_ q9_ => XS.aloadN W641.here W641.hx rfl (hb hby dc15_5) rfl rfl (XS.iloadN W641.here W641.hx rfl (hb hby dc15_6) rfl q9_)) ?_
  show Go _ _ _ _ _ _ _ _ _ (T640.setTop (mkF m 7 #[.val (.ref ta), .val (.int (2 : Int32))] [(.int (2 : Int32)), (.ref ta)]))
  refine W641.callSp (y := (⟨"java/lang/StringUTF16", "getChar", "([BI)C"⟩ : MethodName)) (wd61 hw) (wd62 hw) (wd37 hw) (wd63 hw) (by decide) (c_get4_2 l Z a0 hw hEL h0 W641.old ta k_ta vs uu vv cc PSH A_t hu hv hp r_c) all0 (by decide) (by decide) (k' := 0) (n' := 0) rfl rfl (by decide) (by decide) (by rw [hml]; rfl) (argsL := [(.ref ta), (.int (2 : Int32))]) (rest := []) (lenOf pd_6 rfl) rfl rfl (Wt := 0) (Nat.le_of_eq rfl) (hb hby dc15_7) ?_
  intro T642 W643
  show Go _ _ _ _ _ _ _ _ _ (T642.setTop (mkF m 10 #[.val (.ref ta), .val (.int (2 : Int32))] [(.int cc)]))
  exact W643.retN (z' := cc) (by decide) (by decide) hret (by simp) (hb hby dc15_10) (nar_id r_c) ⟨rfl, rfl⟩
theorem c_uca4_3 (l : Launch) (Z : State) (a0 : Array Value) (hw : HW Z a0) (hEL : EW Z a0 [("java/lang/String", 7)]) (h0 : Heap) (hE0 : Ext Z.heap h0) (ta : Addr) (k_ta : ClassId) (vs : List Value) (uu vv cc : Int32) (fm : Value) (PSH : PS3 Z) (SFM : Sta Z Z.heap "jdk/internal/util/Preconditions" "SIOOBE_FORMATTER" "Ljava/util/function/BiFunction;" fm) (rfm : fm.isRef = true) (A_t : Arv Z h0 ta k_ta .byte (8 : Int32) vs (.int (0 : Int32))) (hu : vs.getD 6 (.int (0 : Int32)) = .int uu) (hv : vs.getD 7 (.int (0 : Int32)) = .int vv) (hp : StrChars.pairCh uu vv = cc) (r_c : ¬ cc < 0 ∧ ¬ (65535 : Int32) < cc) :
    Con l Z [("java/lang/String", 7)] [] (⟨"java/lang/StringUTF16", "charAt", "([BI)C"⟩ : MethodName) jdk_52_method_83_code 2 (some .char) [] (⟨3, 0, 0, 40⟩ : Room) #[(.ref ta), (.int (3 : Int32))] h0 (fun v h' => v = (some (.int cc)) ∧ h' = h0) := by
  refine Con.mk (plainFor_of_name pn_1) hEL hE0 (fun x hx => by cases hx) ?_
  intro p e s m below meth c T0 hby hml hret hnm W0
  rw [(show entryFrame m #[(.ref ta), (.int (3 : Int32))] 2 = mkF m 0 #[.val (.ref ta), .val (.int (3 : Int32))] [] from by first | (simp [entryFrame, mkF, argsToLocals, Value.category]; done) | rfl)]
  refine Go.by (fun t9_ q9_ => XS.iloadN W0.here W0.hx rfl (hb hby dc15_0) rfl (XS.aloadN W0.here W0.hx rfl (hb hby dc15_1) rfl rfl q9_)) ?_
  show Go _ _ _ _ _ _ _ _ _ (T0.setTop (mkF m 2 #[.val (.ref ta), .val (.int (3 : Int32))] [(.ref ta), (.int (3 : Int32))]))
  refine W0.callSp (y := (⟨"java/lang/StringUTF16", "checkIndex", "(I[B)V"⟩ : MethodName)) (wd94 hw) (wd95 hw) (wd37 hw) (wd96 hw) (by decide) (c_uci4 l Z a0 hw hEL h0 hE0 (3 : Int32) ta k_ta vs fm SFM rfm A_t (by decide) (by decide)) all0 (by decide) (by decide) (k' := 0) (n' := 0) rfl rfl (by decide) (by decide) (by rw [hml]; rfl) (argsL := [(.int (3 : Int32)), (.ref ta)]) (rest := []) (lenOf pd_11 rfl) rfl rfl (Wt := 0) (Nat.le_of_eq rfl) (hb hby dc15_2) ?_
  intro T644 W645
  refine Go.by (fun t9_ q9_ => XS.aloadN W645.here W645.hx rfl (hb hby dc15_5) rfl rfl (XS.iloadN W645.here W645.hx rfl (hb hby dc15_6) rfl q9_)) ?_
  show Go _ _ _ _ _ _ _ _ _ (T644.setTop (mkF m 7 #[.val (.ref ta), .val (.int (3 : Int32))] [(.int (3 : Int32)), (.ref ta)]))
  refine W645.callSp (y := (⟨"java/lang/StringUTF16", "getChar", "([BI)C"⟩ : MethodName)) (wd61 hw) (wd62 hw) (wd37 hw) (wd63 hw) (by decide) (c_get4_3 l Z a0 hw hEL h0 W645.old ta k_ta vs uu vv cc PSH A_t hu hv hp r_c) all0 (by decide) (by decide) (k' := 0) (n' := 0) rfl rfl (by decide) (by decide) (by rw [hml]; rfl) (argsL := [(.ref ta), (.int (3 : Int32))]) (rest := []) (lenOf pd_6 rfl) rfl rfl (Wt := 0) (Nat.le_of_eq rfl) (hb hby dc15_7) ?_
  intro T646 W647
  show Go _ _ _ _ _ _ _ _ _ (T646.setTop (mkF m 10 #[.val (.ref ta), .val (.int (3 : Int32))] [(.int cc)]))
  exact W647.retN (z' := cc) (by decide) (by decide) hret (by simp) (hb hby dc15_10) (nar_id r_c) ⟨rfl, rfl⟩
theorem c_isl0 (l : Launch) (Z : State) (a0 : Array Value) (hw : HW Z a0) (hEL : EW Z a0 [("java/lang/String", 7)]) (h0 : Heap) (hE0 : Ext Z.heap h0) (xa : Addr) (G1 : Int32) (SG1 : Sta Z Z.heap "java/lang/String" "COMPACT_STRINGS" "Z" (.int G1)) (hG : ¬ G1 = 0) (FC : Fld Z h0 xa "java/lang/String" "coder" "B" (.int 0)) :
    Con l Z [("java/lang/String", 7)] [] (⟨"java/lang/String", "isLatin1", "()Z"⟩ : MethodName) jdk_42_method_154_code 1 (some .boolean) [] (⟨0, 0, 0, 0⟩ : Room) #[(.ref xa)] h0 (fun v h' => v = (some (.int 1)) ∧ h' = h0) := by
  refine Con.mk (plainFor_of_name pn_0) hEL hE0 (fun x hx => by cases hx) ?_
  intro p e s m below meth c T0 hby hml hret hnm W0
  rw [(show entryFrame m #[(.ref xa)] 1 = mkF m 0 #[.val (.ref xa)] [] from by first | (simp [entryFrame, mkF, argsToLocals, Value.category]; done) | rfl)]
  refine W0.gets (host := "") (Or.inl (wd34 hw)) Via.refl (SG1.ext W0.old) (hb hby dc12_0) ?_
  intro T648 W649
  refine Go.by (fun t9_ q9_ => XS.ifNo W649.here W649.hx rfl (hb hby dc12_3) rfl ((if0 _ _).trans (feq hG).1) q9_) ?_
  refine Go.by (fun t9_ q9_ => XS.aloadN W649.here W649.hx rfl (hb hby dc12_6) rfl rfl q9_) ?_
  show Go _ _ _ _ _ _ _ _ _ (T648.setTop (mkF m 7 #[.val (.ref xa)] [(.ref xa)]))
  refine W649.getf (host := "") (Or.inl (wd29 hw)) Via.refl FC (hb hby dc12_7) ?_
  intro T650 W651
  refine Go.by (fun t9_ q9_ => XS.ifNo W651.here W651.hx rfl (hb hby dc12_10) rfl ((if0 _ _).trans (teq rfl).2) q9_) ?_
  refine Go.by (fun t9_ q9_ => XS.iconst W651.here W651.hx rfl (hb hby dc12_13) (XS.goto W651.here W651.hx rfl (pc0 := 14) (pc' := 18) rfl (hb hby dc12_14) (by decide) (by decide) q9_)) ?_
  show Go _ _ _ _ _ _ _ _ _ (T650.setTop (mkF m 18 #[.val (.ref xa)] [(.int (1 : Int32))]))
  exact W651.retN (z' := (1 : Int32)) (by decide) (by decide) hret (by simp) (hb hby dc12_18) rfl ⟨rfl, rfl⟩
theorem c_lca (l : Launch) (Z : State) (a0 : Array Value) (hw : HW Z a0) (hEL : EW Z a0 [("java/lang/String", 7)]) (h0 : Heap) (hE0 : Ext Z.heap h0) (ta : Addr) (k_ta : ClassId) (N2 : Int32) (vs : List Value) (ii uu cc : Int32) (fm : Value) (SFM : Sta Z Z.heap "jdk/internal/util/Preconditions" "SIOOBE_FORMATTER" "Ljava/util/function/BiFunction;" fm) (rfm : fm.isRef = true) (A_t : Arv Z h0 ta k_ta .byte N2 vs (.int (0 : Int32))) (h1 : ¬ ii < 0) (h2 : ii < N2) (hu : vs.getD ii.toNatClampNeg (.int (0 : Int32)) = .int uu) (hp : StrChars.chr8 uu = cc) (r_c : ¬ cc < 0 ∧ ¬ (65535 : Int32) < cc) :
    Con l Z [("java/lang/String", 7)] [] (⟨"java/lang/StringLatin1", "charAt", "([BI)C"⟩ : MethodName) jdk_43_method_2_code 2 (some .char) [] (⟨2, 0, 0, 27⟩ : Room) #[(.ref ta), (.int ii)] h0 (fun v h' => v = (some (.int cc)) ∧ h' = h0) := by
  refine Con.mk (plainFor_of_name pn_3) hEL hE0 (fun x hx => by cases hx) ?_
  intro p e s m below meth c T0 hby hml hret hnm W0
  rw [(show entryFrame m #[(.ref ta), (.int ii)] 2 = mkF m 0 #[.val (.ref ta), .val (.int ii)] [] from by first | (simp [entryFrame, mkF, argsToLocals, Value.category]; done) | rfl)]
  refine Go.by (fun t9_ q9_ => XS.iloadN W0.here W0.hx rfl (hb hby dc16_0) rfl (XS.aloadN W0.here W0.hx rfl (hb hby dc16_1) rfl rfl q9_)) ?_
  show Go _ _ _ _ _ _ _ _ _ (T0.setTop (mkF m 2 #[.val (.ref ta), .val (.int ii)] [(.ref ta), (.int ii)]))
  refine W0.alen A_t (hb hby dc16_2) ?_
  show Go _ _ _ _ _ _ _ _ _ (T0.setTop (mkF m 3 #[.val (.ref ta), .val (.int ii)] [(.int N2), (.int ii)]))
  refine W0.callSp (y := (⟨"java/lang/String", "checkIndex", "(II)V"⟩ : MethodName)) (wd112 hw) (wd101 hw) (wd10 hw) (wd102 hw) (by decide) (c_sci l Z a0 hw hEL h0 hE0 ii N2 fm SFM rfm h1 h2) all0 (by decide) (by decide) (k' := 0) (n' := 0) rfl rfl (by decide) (by decide) (by rw [hml]; rfl) (argsL := [(.int ii), (.int N2)]) (rest := []) (lenOf pd_10 rfl) rfl rfl (Wt := 0) (Nat.le_of_eq rfl) (hb hby dc16_3) ?_
  intro T652 W653
  refine Go.by (fun t9_ q9_ => XS.aloadN W653.here W653.hx rfl (hb hby dc16_6) rfl rfl (XS.iloadN W653.here W653.hx rfl (hb hby dc16_7) rfl q9_)) ?_
  show Go _ _ _ _ _ _ _ _ _ (T652.setTop (mkF m 8 #[.val (.ref ta), .val (.int ii)] [(.int ii), (.ref ta)]))
  refine W653.bald A_t ⟨h1, h2⟩ (v := .int uu) hu (hb hby dc16_8) ?_
  refine Go.by (fun t9_ q9_ => XS.sipush W653.here W653.hx rfl (hb hby dc16_9) (XS.iand W653.here W653.hx rfl (hb hby dc16_12) rfl (XS.i2c W653.here W653.hx rfl (hb hby dc16_13) rfl q9_))) ?_
  show Go _ _ _ _ _ _ _ _ _ (T652.setTop (mkF m 14 #[.val (.ref ta), .val (.int ii)] [(.int ((uu &&& (255 : Int32)).toUInt32.toUInt16.toUInt32.toInt32))]))
  exact W653.retN (z' := cc) (by decide) (by decide) hret (by simp) (hb hby dc16_14) (by show nar .char (StrChars.chr8 uu) = cc; rw [hp]; exact nar_id r_c) ⟨rfl, rfl⟩
theorem c_ca1_0 (l : Launch) (Z : State) (a0 : Array Value) (hw : HW Z a0) (hEL : EW Z a0 [("java/lang/String", 7)]) (h0 : Heap) (hE0 : Ext Z.heap h0) (xa : Addr) (c0 G1 : Int32) (fm : Value) (SG1 : Sta Z Z.heap "java/lang/String" "COMPACT_STRINGS" "Z" (.int G1)) (hG : ¬ G1 = 0) (PSH : PS3 Z) (SFM : Sta Z Z.heap "jdk/internal/util/Preconditions" "SIOOBE_FORMATTER" "Ljava/util/function/BiFunction;" fm) (rfm : fm.isRef = true) (S_x : Str Z h0 xa [c0]) :
    Con l Z [("java/lang/String", 7)] [] (⟨"java/lang/String", "charAt", "(I)C"⟩ : MethodName) jdk_42_method_56_code 2 (some .char) [] (⟨4, 0, 0, 53⟩ : Room) #[(.ref xa), (.int (0 : Int32))] h0 (fun v h' => v = (some (.int c0)) ∧ h' = h0) := by
  refine Con.mk (plainFor_of_name pn_0) hEL hE0 (fun x hx => by cases hx) ?_
  intro p e s m below meth c T0 hby hml hret hnm W0
  rw [(show entryFrame m #[(.ref xa), (.int (0 : Int32))] 2 = mkF m 0 #[.val (.ref xa), .val (.int (0 : Int32))] [] from by first | (simp [entryFrame, mkF, argsToLocals, Value.category]; done) | rfl)]
  obtain ⟨ta, k_ta, cd, N2, vs, s1, s2, s3, s4, s5, s6⟩ := id S_x
  have r_c := s6 c0 (List.mem_of_getElem? (i := 0) rfl)
  refine Go.by (fun t9_ q9_ => XS.aloadN W0.here W0.hx rfl (hb hby dc17_0) rfl rfl q9_) ?_
  rcases s5 with ⟨rfl, rfl, rfl, hlat⟩ | ⟨rfl, rfl, rfl, -⟩
  · show Go _ _ _ _ _ _ _ _ _ (T0.setTop (mkF m 1 #[.val (.ref xa), .val (.int (0 : Int32))] [(.ref xa)]))
    refine W0.callVp (y := (⟨"java/lang/String", "isLatin1", "()Z"⟩ : MethodName)) (z := (⟨"java/lang/String", "isLatin1", "()Z"⟩ : MethodName)) (wd86 hw) (wd87 hw) (nf_sel rfl (wd89 hw)) (wd89 hw) (wd88 hw) (wd10 hw) (wd90 hw) (by decide) S_x.exa (a := xa) (c_isl0 l Z a0 hw hEL h0 hE0 xa G1 SG1 hG s3) all0 (by decide) (by decide) (k' := 0) (n' := 0) rfl rfl (by decide) (by decide) (by rw [hml]; rfl) (argsL := []) (rest := []) (lenOf pd_12 rfl) rfl rfl (Wt := 0) (Nat.le_of_eq rfl) (hb hby dc17_1) ?_
    intro T654 W655
    refine Go.by (fun t9_ q9_ => XS.ifNo W655.here W655.hx rfl (hb hby dc17_4) rfl ((if0 _ _).trans (feq (by decide)).1) q9_) ?_
    refine Go.by (fun t9_ q9_ => XS.aloadN W655.here W655.hx rfl (hb hby dc17_7) rfl rfl q9_) ?_
    show Go _ _ _ _ _ _ _ _ _ (T654.setTop (mkF m 8 #[.val (.ref xa), .val (.int (0 : Int32))] [(.ref xa)]))
    refine W655.getf (host := "") (Or.inl (wd28 hw)) Via.refl s2 (hb hby dc17_8) ?_
    intro T656 W657
    refine Go.by (fun t9_ q9_ => XS.iloadN W657.here W657.hx rfl (hb hby dc17_11) rfl q9_) ?_
    show Go _ _ _ _ _ _ _ _ _ (T656.setTop (mkF m 12 #[.val (.ref xa), .val (.int (0 : Int32))] [(.int (0 : Int32)), (.ref ta)]))
    refine W657.callSp (y := (⟨"java/lang/StringLatin1", "charAt", "([BI)C"⟩ : MethodName)) (wd108 hw) (wd109 hw) (wd110 hw) (wd111 hw) (by decide) (c_lca l Z a0 hw hEL h0 W657.old ta k_ta _ _ (0 : Int32) _ c0 fm SFM rfm s4 (by decide) (show (0 : Int32) < (1 : Int32) by decide) rfl (StrChars.chr8_lo8 r_c.1 (hlat c0 (List.mem_of_getElem? (i := 0) rfl))) r_c) all0 (by decide) (by decide) (k' := 0) (n' := 0) rfl rfl (by decide) (by decide) (by rw [hml]; rfl) (argsL := [(.ref ta), (.int (0 : Int32))]) (rest := []) (lenOf pd_6 rfl) rfl rfl (Wt := 0) (Nat.le_of_eq rfl) (hb hby dc17_12) ?_
    intro T658 W659
    show Go _ _ _ _ _ _ _ _ _ (T658.setTop (mkF m 15 #[.val (.ref xa), .val (.int (0 : Int32))] [(.int c0)]))
    exact W659.retN (z' := c0) (by decide) (by decide) hret (by simp) (hb hby dc17_15) (nar_id r_c) ⟨rfl, rfl⟩
  · show Go _ _ _ _ _ _ _ _ _ (T0.setTop (mkF m 1 #[.val (.ref xa), .val (.int (0 : Int32))] [(.ref xa)]))
    refine W0.callVp (y := (⟨"java/lang/String", "isLatin1", "()Z"⟩ : MethodName)) (z := (⟨"java/lang/String", "isLatin1", "()Z"⟩ : MethodName)) (wd86 hw) (wd87 hw) (nf_sel rfl (wd89 hw)) (wd89 hw) (wd88 hw) (wd10 hw) (wd90 hw) (by decide) S_x.exa (a := xa) (c_isl l Z a0 hw hEL h0 hE0 xa G1 SG1 hG s3) all0 (by decide) (by decide) (k' := 0) (n' := 0) rfl rfl (by decide) (by decide) (by rw [hml]; rfl) (argsL := []) (rest := []) (lenOf pd_12 rfl) rfl rfl (Wt := 0) (Nat.le_of_eq rfl) (hb hby dc17_1) ?_
    intro T660 W661
    refine Go.by (fun t9_ q9_ => XS.ifYes W661.here W661.hx rfl (pc0 := 4) (pc' := 16) rfl (hb hby dc17_4) rfl ((if0 _ _).trans (teq rfl).1) (by decide) (by decide) q9_) ?_
    refine Go.by (fun t9_ q9_ => XS.aloadN W661.here W661.hx rfl (hb hby dc17_16) rfl rfl q9_) ?_
    show Go _ _ _ _ _ _ _ _ _ (T660.setTop (mkF m 17 #[.val (.ref xa), .val (.int (0 : Int32))] [(.ref xa)]))
    refine W661.getf (host := "") (Or.inl (wd28 hw)) Via.refl s2 (hb hby dc17_17) ?_
    intro T662 W663
    refine Go.by (fun t9_ q9_ => XS.iloadN W663.here W663.hx rfl (hb hby dc17_20) rfl q9_) ?_
    show Go _ _ _ _ _ _ _ _ _ (T662.setTop (mkF m 21 #[.val (.ref xa), .val (.int (0 : Int32))] [(.int (0 : Int32)), (.ref ta)]))
    refine W663.callSp (y := (⟨"java/lang/StringUTF16", "charAt", "([BI)C"⟩ : MethodName)) (wd91 hw) (wd92 hw) (wd37 hw) (wd93 hw) (by decide) (c_uca1_0 l Z a0 hw hEL h0 W663.old ta k_ta _ _ _ c0 fm PSH SFM rfm s4 rfl rfl (StrChars.pair_says r_c.1 r_c.2) r_c) all0 (by decide) (by decide) (k' := 0) (n' := 0) rfl rfl (by decide) (by decide) (by rw [hml]; rfl) (argsL := [(.ref ta), (.int (0 : Int32))]) (rest := []) (lenOf pd_6 rfl) rfl rfl (Wt := 0) (Nat.le_of_eq rfl) (hb hby dc17_21) ?_
    intro T664 W665
    show Go _ _ _ _ _ _ _ _ _ (T664.setTop (mkF m 24 #[.val (.ref xa), .val (.int (0 : Int32))] [(.int c0)]))
    exact W665.retN (z' := c0) (by decide) (by decide) hret (by simp) (hb hby dc17_24) (nar_id r_c) ⟨rfl, rfl⟩
theorem c_ca2_0 (l : Launch) (Z : State) (a0 : Array Value) (hw : HW Z a0) (hEL : EW Z a0 [("java/lang/String", 7)]) (h0 : Heap) (hE0 : Ext Z.heap h0) (xa : Addr) (c0 c1 G1 : Int32) (fm : Value) (SG1 : Sta Z Z.heap "java/lang/String" "COMPACT_STRINGS" "Z" (.int G1)) (hG : ¬ G1 = 0) (PSH : PS3 Z) (SFM : Sta Z Z.heap "jdk/internal/util/Preconditions" "SIOOBE_FORMATTER" "Ljava/util/function/BiFunction;" fm) (rfm : fm.isRef = true) (S_x : Str Z h0 xa [c0, c1]) :
    Con l Z [("java/lang/String", 7)] [] (⟨"java/lang/String", "charAt", "(I)C"⟩ : MethodName) jdk_42_method_56_code 2 (some .char) [] (⟨4, 0, 0, 53⟩ : Room) #[(.ref xa), (.int (0 : Int32))] h0 (fun v h' => v = (some (.int c0)) ∧ h' = h0) := by
  refine Con.mk (plainFor_of_name pn_0) hEL hE0 (fun x hx => by cases hx) ?_
  intro p e s m below meth c T0 hby hml hret hnm W0
  rw [(show entryFrame m #[(.ref xa), (.int (0 : Int32))] 2 = mkF m 0 #[.val (.ref xa), .val (.int (0 : Int32))] [] from by first | (simp [entryFrame, mkF, argsToLocals, Value.category]; done) | rfl)]
  obtain ⟨ta, k_ta, cd, N2, vs, s1, s2, s3, s4, s5, s6⟩ := id S_x
  have r_c := s6 c0 (List.mem_of_getElem? (i := 0) rfl)
  refine Go.by (fun t9_ q9_ => XS.aloadN W0.here W0.hx rfl (hb hby dc17_0) rfl rfl q9_) ?_
  rcases s5 with ⟨rfl, rfl, rfl, hlat⟩ | ⟨rfl, rfl, rfl, -⟩
  · show Go _ _ _ _ _ _ _ _ _ (T0.setTop (mkF m 1 #[.val (.ref xa), .val (.int (0 : Int32))] [(.ref xa)]))
    refine W0.callVp (y := (⟨"java/lang/String", "isLatin1", "()Z"⟩ : MethodName)) (z := (⟨"java/lang/String", "isLatin1", "()Z"⟩ : MethodName)) (wd86 hw) (wd87 hw) (nf_sel rfl (wd89 hw)) (wd89 hw) (wd88 hw) (wd10 hw) (wd90 hw) (by decide) S_x.exa (a := xa) (c_isl0 l Z a0 hw hEL h0 hE0 xa G1 SG1 hG s3) all0 (by decide) (by decide) (k' := 0) (n' := 0) rfl rfl (by decide) (by decide) (by rw [hml]; rfl) (argsL := []) (rest := []) (lenOf pd_12 rfl) rfl rfl (Wt := 0) (Nat.le_of_eq rfl) (hb hby dc17_1) ?_
    intro T666 W667
    refine Go.by (fun t9_ q9_ => XS.ifNo W667.here W667.hx rfl (hb hby dc17_4) rfl ((if0 _ _).trans (feq (by decide)).1) q9_) ?_
    refine Go.by (fun t9_ q9_ => XS.aloadN W667.here W667.hx rfl (hb hby dc17_7) rfl rfl q9_) ?_
    show Go _ _ _ _ _ _ _ _ _ (T666.setTop (mkF m 8 #[.val (.ref xa), .val (.int (0 : Int32))] [(.ref xa)]))
    refine W667.getf (host := "") (Or.inl (wd28 hw)) Via.refl s2 (hb hby dc17_8) ?_
    intro T668 W669
    refine Go.by (fun t9_ q9_ => XS.iloadN W669.here W669.hx rfl (hb hby dc17_11) rfl q9_) ?_
    show Go _ _ _ _ _ _ _ _ _ (T668.setTop (mkF m 12 #[.val (.ref xa), .val (.int (0 : Int32))] [(.int (0 : Int32)), (.ref ta)]))
    refine W669.callSp (y := (⟨"java/lang/StringLatin1", "charAt", "([BI)C"⟩ : MethodName)) (wd108 hw) (wd109 hw) (wd110 hw) (wd111 hw) (by decide) (c_lca l Z a0 hw hEL h0 W669.old ta k_ta _ _ (0 : Int32) _ c0 fm SFM rfm s4 (by decide) (show (0 : Int32) < (2 : Int32) by decide) rfl (StrChars.chr8_lo8 r_c.1 (hlat c0 (List.mem_of_getElem? (i := 0) rfl))) r_c) all0 (by decide) (by decide) (k' := 0) (n' := 0) rfl rfl (by decide) (by decide) (by rw [hml]; rfl) (argsL := [(.ref ta), (.int (0 : Int32))]) (rest := []) (lenOf pd_6 rfl) rfl rfl (Wt := 0) (Nat.le_of_eq rfl) (hb hby dc17_12) ?_
    intro T670 W671
    show Go _ _ _ _ _ _ _ _ _ (T670.setTop (mkF m 15 #[.val (.ref xa), .val (.int (0 : Int32))] [(.int c0)]))
    exact W671.retN (z' := c0) (by decide) (by decide) hret (by simp) (hb hby dc17_15) (nar_id r_c) ⟨rfl, rfl⟩
  · show Go _ _ _ _ _ _ _ _ _ (T0.setTop (mkF m 1 #[.val (.ref xa), .val (.int (0 : Int32))] [(.ref xa)]))
    refine W0.callVp (y := (⟨"java/lang/String", "isLatin1", "()Z"⟩ : MethodName)) (z := (⟨"java/lang/String", "isLatin1", "()Z"⟩ : MethodName)) (wd86 hw) (wd87 hw) (nf_sel rfl (wd89 hw)) (wd89 hw) (wd88 hw) (wd10 hw) (wd90 hw) (by decide) S_x.exa (a := xa) (c_isl l Z a0 hw hEL h0 hE0 xa G1 SG1 hG s3) all0 (by decide) (by decide) (k' := 0) (n' := 0) rfl rfl (by decide) (by decide) (by rw [hml]; rfl) (argsL := []) (rest := []) (lenOf pd_12 rfl) rfl rfl (Wt := 0) (Nat.le_of_eq rfl) (hb hby dc17_1) ?_
    intro T672 W673
    refine Go.by (fun t9_ q9_ => XS.ifYes W673.here W673.hx rfl (pc0 := 4) (pc' := 16) rfl (hb hby dc17_4) rfl ((if0 _ _).trans (teq rfl).1) (by decide) (by decide) q9_) ?_
    refine Go.by (fun t9_ q9_ => XS.aloadN W673.here W673.hx rfl (hb hby dc17_16) rfl rfl q9_) ?_
    show Go _ _ _ _ _ _ _ _ _ (T672.setTop (mkF m 17 #[.val (.ref xa), .val (.int (0 : Int32))] [(.ref xa)]))
    refine W673.getf (host := "") (Or.inl (wd28 hw)) Via.refl s2 (hb hby dc17_17) ?_
    intro T674 W675
    refine Go.by (fun t9_ q9_ => XS.iloadN W675.here W675.hx rfl (hb hby dc17_20) rfl q9_) ?_
    show Go _ _ _ _ _ _ _ _ _ (T674.setTop (mkF m 21 #[.val (.ref xa), .val (.int (0 : Int32))] [(.int (0 : Int32)), (.ref ta)]))
    refine W675.callSp (y := (⟨"java/lang/StringUTF16", "charAt", "([BI)C"⟩ : MethodName)) (wd91 hw) (wd92 hw) (wd37 hw) (wd93 hw) (by decide) (c_uca2_0 l Z a0 hw hEL h0 W675.old ta k_ta _ _ _ c0 fm PSH SFM rfm s4 rfl rfl (StrChars.pair_says r_c.1 r_c.2) r_c) all0 (by decide) (by decide) (k' := 0) (n' := 0) rfl rfl (by decide) (by decide) (by rw [hml]; rfl) (argsL := [(.ref ta), (.int (0 : Int32))]) (rest := []) (lenOf pd_6 rfl) rfl rfl (Wt := 0) (Nat.le_of_eq rfl) (hb hby dc17_21) ?_
    intro T676 W677
    show Go _ _ _ _ _ _ _ _ _ (T676.setTop (mkF m 24 #[.val (.ref xa), .val (.int (0 : Int32))] [(.int c0)]))
    exact W677.retN (z' := c0) (by decide) (by decide) hret (by simp) (hb hby dc17_24) (nar_id r_c) ⟨rfl, rfl⟩
theorem c_ca2_1 (l : Launch) (Z : State) (a0 : Array Value) (hw : HW Z a0) (hEL : EW Z a0 [("java/lang/String", 7)]) (h0 : Heap) (hE0 : Ext Z.heap h0) (xa : Addr) (c0 c1 G1 : Int32) (fm : Value) (SG1 : Sta Z Z.heap "java/lang/String" "COMPACT_STRINGS" "Z" (.int G1)) (hG : ¬ G1 = 0) (PSH : PS3 Z) (SFM : Sta Z Z.heap "jdk/internal/util/Preconditions" "SIOOBE_FORMATTER" "Ljava/util/function/BiFunction;" fm) (rfm : fm.isRef = true) (S_x : Str Z h0 xa [c0, c1]) :
    Con l Z [("java/lang/String", 7)] [] (⟨"java/lang/String", "charAt", "(I)C"⟩ : MethodName) jdk_42_method_56_code 2 (some .char) [] (⟨4, 0, 0, 53⟩ : Room) #[(.ref xa), (.int (1 : Int32))] h0 (fun v h' => v = (some (.int c1)) ∧ h' = h0) := by
  refine Con.mk (plainFor_of_name pn_0) hEL hE0 (fun x hx => by cases hx) ?_
  intro p e s m below meth c T0 hby hml hret hnm W0
  rw [(show entryFrame m #[(.ref xa), (.int (1 : Int32))] 2 = mkF m 0 #[.val (.ref xa), .val (.int (1 : Int32))] [] from by first | (simp [entryFrame, mkF, argsToLocals, Value.category]; done) | rfl)]
  obtain ⟨ta, k_ta, cd, N2, vs, s1, s2, s3, s4, s5, s6⟩ := id S_x
  have r_c := s6 c1 (List.mem_of_getElem? (i := 1) rfl)
  refine Go.by (fun t9_ q9_ => XS.aloadN W0.here W0.hx rfl (hb hby dc17_0) rfl rfl q9_) ?_
  rcases s5 with ⟨rfl, rfl, rfl, hlat⟩ | ⟨rfl, rfl, rfl, -⟩
  · show Go _ _ _ _ _ _ _ _ _ (T0.setTop (mkF m 1 #[.val (.ref xa), .val (.int (1 : Int32))] [(.ref xa)]))
    refine W0.callVp (y := (⟨"java/lang/String", "isLatin1", "()Z"⟩ : MethodName)) (z := (⟨"java/lang/String", "isLatin1", "()Z"⟩ : MethodName)) (wd86 hw) (wd87 hw) (nf_sel rfl (wd89 hw)) (wd89 hw) (wd88 hw) (wd10 hw) (wd90 hw) (by decide) S_x.exa (a := xa) (c_isl0 l Z a0 hw hEL h0 hE0 xa G1 SG1 hG s3) all0 (by decide) (by decide) (k' := 0) (n' := 0) rfl rfl (by decide) (by decide) (by rw [hml]; rfl) (argsL := []) (rest := []) (lenOf pd_12 rfl) rfl rfl (Wt := 0) (Nat.le_of_eq rfl) (hb hby dc17_1) ?_
    intro T678 W679
    refine Go.by (fun t9_ q9_ => XS.ifNo W679.here W679.hx rfl (hb hby dc17_4) rfl ((if0 _ _).trans (feq (by decide)).1) q9_) ?_
    refine Go.by (fun t9_ q9_ => XS.aloadN W679.here W679.hx rfl (hb hby dc17_7) rfl rfl q9_) ?_
    show Go _ _ _ _ _ _ _ _ _ (T678.setTop (mkF m 8 #[.val (.ref xa), .val (.int (1 : Int32))] [(.ref xa)]))
    refine W679.getf (host := "") (Or.inl (wd28 hw)) Via.refl s2 (hb hby dc17_8) ?_
    intro T680 W681
    refine Go.by (fun t9_ q9_ => XS.iloadN W681.here W681.hx rfl (hb hby dc17_11) rfl q9_) ?_
    show Go _ _ _ _ _ _ _ _ _ (T680.setTop (mkF m 12 #[.val (.ref xa), .val (.int (1 : Int32))] [(.int (1 : Int32)), (.ref ta)]))
    refine W681.callSp (y := (⟨"java/lang/StringLatin1", "charAt", "([BI)C"⟩ : MethodName)) (wd108 hw) (wd109 hw) (wd110 hw) (wd111 hw) (by decide) (c_lca l Z a0 hw hEL h0 W681.old ta k_ta _ _ (1 : Int32) _ c1 fm SFM rfm s4 (by decide) (show (1 : Int32) < (2 : Int32) by decide) rfl (StrChars.chr8_lo8 r_c.1 (hlat c1 (List.mem_of_getElem? (i := 1) rfl))) r_c) all0 (by decide) (by decide) (k' := 0) (n' := 0) rfl rfl (by decide) (by decide) (by rw [hml]; rfl) (argsL := [(.ref ta), (.int (1 : Int32))]) (rest := []) (lenOf pd_6 rfl) rfl rfl (Wt := 0) (Nat.le_of_eq rfl) (hb hby dc17_12) ?_
    intro T682 W683
    show Go _ _ _ _ _ _ _ _ _ (T682.setTop (mkF m 15 #[.val (.ref xa), .val (.int (1 : Int32))] [(.int c1)]))
    exact W683.retN (z' := c1) (by decide) (by decide) hret (by simp) (hb hby dc17_15) (nar_id r_c) ⟨rfl, rfl⟩
  · show Go _ _ _ _ _ _ _ _ _ (T0.setTop (mkF m 1 #[.val (.ref xa), .val (.int (1 : Int32))] [(.ref xa)]))
    refine W0.callVp (y := (⟨"java/lang/String", "isLatin1", "()Z"⟩ : MethodName)) (z := (⟨"java/lang/String", "isLatin1", "()Z"⟩ : MethodName)) (wd86 hw) (wd87 hw) (nf_sel rfl (wd89 hw)) (wd89 hw) (wd88 hw) (wd10 hw) (wd90 hw) (by decide) S_x.exa (a := xa) (c_isl l Z a0 hw hEL h0 hE0 xa G1 SG1 hG s3) all0 (by decide) (by decide) (k' := 0) (n' := 0) rfl rfl (by decide) (by decide) (by rw [hml]; rfl) (argsL := []) (rest := []) (lenOf pd_12 rfl) rfl rfl (Wt := 0) (Nat.le_of_eq rfl) (hb hby dc17_1) ?_
    intro T684 W685
    refine Go.by (fun t9_ q9_ => XS.ifYes W685.here W685.hx rfl (pc0 := 4) (pc' := 16) rfl (hb hby dc17_4) rfl ((if0 _ _).trans (teq rfl).1) (by decide) (by decide) q9_) ?_
    refine Go.by (fun t9_ q9_ => XS.aloadN W685.here W685.hx rfl (hb hby dc17_16) rfl rfl q9_) ?_
    show Go _ _ _ _ _ _ _ _ _ (T684.setTop (mkF m 17 #[.val (.ref xa), .val (.int (1 : Int32))] [(.ref xa)]))
    refine W685.getf (host := "") (Or.inl (wd28 hw)) Via.refl s2 (hb hby dc17_17) ?_
    intro T686 W687
    refine Go.by (fun t9_ q9_ => XS.iloadN W687.here W687.hx rfl (hb hby dc17_20) rfl q9_) ?_
    show Go _ _ _ _ _ _ _ _ _ (T686.setTop (mkF m 21 #[.val (.ref xa), .val (.int (1 : Int32))] [(.int (1 : Int32)), (.ref ta)]))
    refine W687.callSp (y := (⟨"java/lang/StringUTF16", "charAt", "([BI)C"⟩ : MethodName)) (wd91 hw) (wd92 hw) (wd37 hw) (wd93 hw) (by decide) (c_uca2_1 l Z a0 hw hEL h0 W687.old ta k_ta _ _ _ c1 fm PSH SFM rfm s4 rfl rfl (StrChars.pair_says r_c.1 r_c.2) r_c) all0 (by decide) (by decide) (k' := 0) (n' := 0) rfl rfl (by decide) (by decide) (by rw [hml]; rfl) (argsL := [(.ref ta), (.int (1 : Int32))]) (rest := []) (lenOf pd_6 rfl) rfl rfl (Wt := 0) (Nat.le_of_eq rfl) (hb hby dc17_21) ?_
    intro T688 W689
    show Go _ _ _ _ _ _ _ _ _ (T688.setTop (mkF m 24 #[.val (.ref xa), .val (.int (1 : Int32))] [(.int c1)]))
    exact W689.retN (z' := c1) (by decide) (by decide) hret (by simp) (hb hby dc17_24) (nar_id r_c) ⟨rfl, rfl⟩
theorem c_ca3_0 (l : Launch) (Z : State) (a0 : Array Value) (hw : HW Z a0) (hEL : EW Z a0 [("java/lang/String", 7)]) (h0 : Heap) (hE0 : Ext Z.heap h0) (xa : Addr) (c0 c1 c2 G1 : Int32) (fm : Value) (SG1 : Sta Z Z.heap "java/lang/String" "COMPACT_STRINGS" "Z" (.int G1)) (hG : ¬ G1 = 0) (PSH : PS3 Z) (SFM : Sta Z Z.heap "jdk/internal/util/Preconditions" "SIOOBE_FORMATTER" "Ljava/util/function/BiFunction;" fm) (rfm : fm.isRef = true) (S_x : Str Z h0 xa [c0, c1, c2]) :
    Con l Z [("java/lang/String", 7)] [] (⟨"java/lang/String", "charAt", "(I)C"⟩ : MethodName) jdk_42_method_56_code 2 (some .char) [] (⟨4, 0, 0, 53⟩ : Room) #[(.ref xa), (.int (0 : Int32))] h0 (fun v h' => v = (some (.int c0)) ∧ h' = h0) := by
  refine Con.mk (plainFor_of_name pn_0) hEL hE0 (fun x hx => by cases hx) ?_
  intro p e s m below meth c T0 hby hml hret hnm W0
  rw [(show entryFrame m #[(.ref xa), (.int (0 : Int32))] 2 = mkF m 0 #[.val (.ref xa), .val (.int (0 : Int32))] [] from by first | (simp [entryFrame, mkF, argsToLocals, Value.category]; done) | rfl)]
  obtain ⟨ta, k_ta, cd, N2, vs, s1, s2, s3, s4, s5, s6⟩ := id S_x
  have r_c := s6 c0 (List.mem_of_getElem? (i := 0) rfl)
  refine Go.by (fun t9_ q9_ => XS.aloadN W0.here W0.hx rfl (hb hby dc17_0) rfl rfl q9_) ?_
  rcases s5 with ⟨rfl, rfl, rfl, hlat⟩ | ⟨rfl, rfl, rfl, -⟩
  · show Go _ _ _ _ _ _ _ _ _ (T0.setTop (mkF m 1 #[.val (.ref xa), .val (.int (0 : Int32))] [(.ref xa)]))
    refine W0.callVp (y := (⟨"java/lang/String", "isLatin1", "()Z"⟩ : MethodName)) (z := (⟨"java/lang/String", "isLatin1", "()Z"⟩ : MethodName)) (wd86 hw) (wd87 hw) (nf_sel rfl (wd89 hw)) (wd89 hw) (wd88 hw) (wd10 hw) (wd90 hw) (by decide) S_x.exa (a := xa) (c_isl0 l Z a0 hw hEL h0 hE0 xa G1 SG1 hG s3) all0 (by decide) (by decide) (k' := 0) (n' := 0) rfl rfl (by decide) (by decide) (by rw [hml]; rfl) (argsL := []) (rest := []) (lenOf pd_12 rfl) rfl rfl (Wt := 0) (Nat.le_of_eq rfl) (hb hby dc17_1) ?_
    intro T690 W691
    refine Go.by (fun t9_ q9_ => XS.ifNo W691.here W691.hx rfl (hb hby dc17_4) rfl ((if0 _ _).trans (feq (by decide)).1) q9_) ?_
    refine Go.by (fun t9_ q9_ => XS.aloadN W691.here W691.hx rfl (hb hby dc17_7) rfl rfl q9_) ?_
    show Go _ _ _ _ _ _ _ _ _ (T690.setTop (mkF m 8 #[.val (.ref xa), .val (.int (0 : Int32))] [(.ref xa)]))
    refine W691.getf (host := "") (Or.inl (wd28 hw)) Via.refl s2 (hb hby dc17_8) ?_
    intro T692 W693
    refine Go.by (fun t9_ q9_ => XS.iloadN W693.here W693.hx rfl (hb hby dc17_11) rfl q9_) ?_
    show Go _ _ _ _ _ _ _ _ _ (T692.setTop (mkF m 12 #[.val (.ref xa), .val (.int (0 : Int32))] [(.int (0 : Int32)), (.ref ta)]))
    refine W693.callSp (y := (⟨"java/lang/StringLatin1", "charAt", "([BI)C"⟩ : MethodName)) (wd108 hw) (wd109 hw) (wd110 hw) (wd111 hw) (by decide) (c_lca l Z a0 hw hEL h0 W693.old ta k_ta _ _ (0 : Int32) _ c0 fm SFM rfm s4 (by decide) (show (0 : Int32) < (3 : Int32) by decide) rfl (StrChars.chr8_lo8 r_c.1 (hlat c0 (List.mem_of_getElem? (i := 0) rfl))) r_c) all0 (by decide) (by decide) (k' := 0) (n' := 0) rfl rfl (by decide) (by decide) (by rw [hml]; rfl) (argsL := [(.ref ta), (.int (0 : Int32))]) (rest := []) (lenOf pd_6 rfl) rfl rfl (Wt := 0) (Nat.le_of_eq rfl) (hb hby dc17_12) ?_
    intro T694 W695
    show Go _ _ _ _ _ _ _ _ _ (T694.setTop (mkF m 15 #[.val (.ref xa), .val (.int (0 : Int32))] [(.int c0)]))
    exact W695.retN (z' := c0) (by decide) (by decide) hret (by simp) (hb hby dc17_15) (nar_id r_c) ⟨rfl, rfl⟩
  · show Go _ _ _ _ _ _ _ _ _ (T0.setTop (mkF m 1 #[.val (.ref xa), .val (.int (0 : Int32))] [(.ref xa)]))
    refine W0.callVp (y := (⟨"java/lang/String", "isLatin1", "()Z"⟩ : MethodName)) (z := (⟨"java/lang/String", "isLatin1", "()Z"⟩ : MethodName)) (wd86 hw) (wd87 hw) (nf_sel rfl (wd89 hw)) (wd89 hw) (wd88 hw) (wd10 hw) (wd90 hw) (by decide) S_x.exa (a := xa) (c_isl l Z a0 hw hEL h0 hE0 xa G1 SG1 hG s3) all0 (by decide) (by decide) (k' := 0) (n' := 0) rfl rfl (by decide) (by decide) (by rw [hml]; rfl) (argsL := []) (rest := []) (lenOf pd_12 rfl) rfl rfl (Wt := 0) (Nat.le_of_eq rfl) (hb hby dc17_1) ?_
    intro T696 W697
    refine Go.by (fun t9_ q9_ => XS.ifYes W697.here W697.hx rfl (pc0 := 4) (pc' := 16) rfl (hb hby dc17_4) rfl ((if0 _ _).trans (teq rfl).1) (by decide) (by decide) q9_) ?_
    refine Go.by (fun t9_ q9_ => XS.aloadN W697.here W697.hx rfl (hb hby dc17_16) rfl rfl q9_) ?_
    show Go _ _ _ _ _ _ _ _ _ (T696.setTop (mkF m 17 #[.val (.ref xa), .val (.int (0 : Int32))] [(.ref xa)]))
    refine W697.getf (host := "") (Or.inl (wd28 hw)) Via.refl s2 (hb hby dc17_17) ?_
    intro T698 W699
    refine Go.by (fun t9_ q9_ => XS.iloadN W699.here W699.hx rfl (hb hby dc17_20) rfl q9_) ?_
    show Go _ _ _ _ _ _ _ _ _ (T698.setTop (mkF m 21 #[.val (.ref xa), .val (.int (0 : Int32))] [(.int (0 : Int32)), (.ref ta)]))
    refine W699.callSp (y := (⟨"java/lang/StringUTF16", "charAt", "([BI)C"⟩ : MethodName)) (wd91 hw) (wd92 hw) (wd37 hw) (wd93 hw) (by decide) (c_uca3_0 l Z a0 hw hEL h0 W699.old ta k_ta _ _ _ c0 fm PSH SFM rfm s4 rfl rfl (StrChars.pair_says r_c.1 r_c.2) r_c) all0 (by decide) (by decide) (k' := 0) (n' := 0) rfl rfl (by decide) (by decide) (by rw [hml]; rfl) (argsL := [(.ref ta), (.int (0 : Int32))]) (rest := []) (lenOf pd_6 rfl) rfl rfl (Wt := 0) (Nat.le_of_eq rfl) (hb hby dc17_21) ?_
    intro T700 W701
    show Go _ _ _ _ _ _ _ _ _ (T700.setTop (mkF m 24 #[.val (.ref xa), .val (.int (0 : Int32))] [(.int c0)]))
    exact W701.retN (z' := c0) (by decide) (by decide) hret (by simp) (hb hby dc17_24) (nar_id r_c) ⟨rfl, rfl⟩
theorem c_ca3_1 (l : Launch) (Z : State) (a0 : Array Value) (hw : HW Z a0) (hEL : EW Z a0 [("java/lang/String", 7)]) (h0 : Heap) (hE0 : Ext Z.heap h0) (xa : Addr) (c0 c1 c2 G1 : Int32) (fm : Value) (SG1 : Sta Z Z.heap "java/lang/String" "COMPACT_STRINGS" "Z" (.int G1)) (hG : ¬ G1 = 0) (PSH : PS3 Z) (SFM : Sta Z Z.heap "jdk/internal/util/Preconditions" "SIOOBE_FORMATTER" "Ljava/util/function/BiFunction;" fm) (rfm : fm.isRef = true) (S_x : Str Z h0 xa [c0, c1, c2]) :
    Con l Z [("java/lang/String", 7)] [] (⟨"java/lang/String", "charAt", "(I)C"⟩ : MethodName) jdk_42_method_56_code 2 (some .char) [] (⟨4, 0, 0, 53⟩ : Room) #[(.ref xa), (.int (1 : Int32))] h0 (fun v h' => v = (some (.int c1)) ∧ h' = h0) := by
  refine Con.mk (plainFor_of_name pn_0) hEL hE0 (fun x hx => by cases hx) ?_
  intro p e s m below meth c T0 hby hml hret hnm W0
  rw [(show entryFrame m #[(.ref xa), (.int (1 : Int32))] 2 = mkF m 0 #[.val (.ref xa), .val (.int (1 : Int32))] [] from by first | (simp [entryFrame, mkF, argsToLocals, Value.category]; done) | rfl)]
  obtain ⟨ta, k_ta, cd, N2, vs, s1, s2, s3, s4, s5, s6⟩ := id S_x
  have r_c := s6 c1 (List.mem_of_getElem? (i := 1) rfl)
  refine Go.by (fun t9_ q9_ => XS.aloadN W0.here W0.hx rfl (hb hby dc17_0) rfl rfl q9_) ?_
  rcases s5 with ⟨rfl, rfl, rfl, hlat⟩ | ⟨rfl, rfl, rfl, -⟩
  · show Go _ _ _ _ _ _ _ _ _ (T0.setTop (mkF m 1 #[.val (.ref xa), .val (.int (1 : Int32))] [(.ref xa)]))
    refine W0.callVp (y := (⟨"java/lang/String", "isLatin1", "()Z"⟩ : MethodName)) (z := (⟨"java/lang/String", "isLatin1", "()Z"⟩ : MethodName)) (wd86 hw) (wd87 hw) (nf_sel rfl (wd89 hw)) (wd89 hw) (wd88 hw) (wd10 hw) (wd90 hw) (by decide) S_x.exa (a := xa) (c_isl0 l Z a0 hw hEL h0 hE0 xa G1 SG1 hG s3) all0 (by decide) (by decide) (k' := 0) (n' := 0) rfl rfl (by decide) (by decide) (by rw [hml]; rfl) (argsL := []) (rest := []) (lenOf pd_12 rfl) rfl rfl (Wt := 0) (Nat.le_of_eq rfl) (hb hby dc17_1) ?_
    intro T702 W703
    refine Go.by (fun t9_ q9_ => XS.ifNo W703.here W703.hx rfl (hb hby dc17_4) rfl ((if0 _ _).trans (feq (by decide)).1) q9_) ?_
    refine Go.by (fun t9_ q9_ => XS.aloadN W703.here W703.hx rfl (hb hby dc17_7) rfl rfl q9_) ?_
    show Go _ _ _ _ _ _ _ _ _ (T702.setTop (mkF m 8 #[.val (.ref xa), .val (.int (1 : Int32))] [(.ref xa)]))
    refine W703.getf (host := "") (Or.inl (wd28 hw)) Via.refl s2 (hb hby dc17_8) ?_
    intro T704 W705
    refine Go.by (fun t9_ q9_ => XS.iloadN W705.here W705.hx rfl (hb hby dc17_11) rfl q9_) ?_
    show Go _ _ _ _ _ _ _ _ _ (T704.setTop (mkF m 12 #[.val (.ref xa), .val (.int (1 : Int32))] [(.int (1 : Int32)), (.ref ta)]))
    refine W705.callSp (y := (⟨"java/lang/StringLatin1", "charAt", "([BI)C"⟩ : MethodName)) (wd108 hw) (wd109 hw) (wd110 hw) (wd111 hw) (by decide) (c_lca l Z a0 hw hEL h0 W705.old ta k_ta _ _ (1 : Int32) _ c1 fm SFM rfm s4 (by decide) (show (1 : Int32) < (3 : Int32) by decide) rfl (StrChars.chr8_lo8 r_c.1 (hlat c1 (List.mem_of_getElem? (i := 1) rfl))) r_c) all0 (by decide) (by decide) (k' := 0) (n' := 0) rfl rfl (by decide) (by decide) (by rw [hml]; rfl) (argsL := [(.ref ta), (.int (1 : Int32))]) (rest := []) (lenOf pd_6 rfl) rfl rfl (Wt := 0) (Nat.le_of_eq rfl) (hb hby dc17_12) ?_
    intro T706 W707
    show Go _ _ _ _ _ _ _ _ _ (T706.setTop (mkF m 15 #[.val (.ref xa), .val (.int (1 : Int32))] [(.int c1)]))
    exact W707.retN (z' := c1) (by decide) (by decide) hret (by simp) (hb hby dc17_15) (nar_id r_c) ⟨rfl, rfl⟩
  · show Go _ _ _ _ _ _ _ _ _ (T0.setTop (mkF m 1 #[.val (.ref xa), .val (.int (1 : Int32))] [(.ref xa)]))
    refine W0.callVp (y := (⟨"java/lang/String", "isLatin1", "()Z"⟩ : MethodName)) (z := (⟨"java/lang/String", "isLatin1", "()Z"⟩ : MethodName)) (wd86 hw) (wd87 hw) (nf_sel rfl (wd89 hw)) (wd89 hw) (wd88 hw) (wd10 hw) (wd90 hw) (by decide) S_x.exa (a := xa) (c_isl l Z a0 hw hEL h0 hE0 xa G1 SG1 hG s3) all0 (by decide) (by decide) (k' := 0) (n' := 0) rfl rfl (by decide) (by decide) (by rw [hml]; rfl) (argsL := []) (rest := []) (lenOf pd_12 rfl) rfl rfl (Wt := 0) (Nat.le_of_eq rfl) (hb hby dc17_1) ?_
    intro T708 W709
    refine Go.by (fun t9_ q9_ => XS.ifYes W709.here W709.hx rfl (pc0 := 4) (pc' := 16) rfl (hb hby dc17_4) rfl ((if0 _ _).trans (teq rfl).1) (by decide) (by decide) q9_) ?_
    refine Go.by (fun t9_ q9_ => XS.aloadN W709.here W709.hx rfl (hb hby dc17_16) rfl rfl q9_) ?_
    show Go _ _ _ _ _ _ _ _ _ (T708.setTop (mkF m 17 #[.val (.ref xa), .val (.int (1 : Int32))] [(.ref xa)]))
    refine W709.getf (host := "") (Or.inl (wd28 hw)) Via.refl s2 (hb hby dc17_17) ?_
    intro T710 W711
    refine Go.by (fun t9_ q9_ => XS.iloadN W711.here W711.hx rfl (hb hby dc17_20) rfl q9_) ?_
    show Go _ _ _ _ _ _ _ _ _ (T710.setTop (mkF m 21 #[.val (.ref xa), .val (.int (1 : Int32))] [(.int (1 : Int32)), (.ref ta)]))
    refine W711.callSp (y := (⟨"java/lang/StringUTF16", "charAt", "([BI)C"⟩ : MethodName)) (wd91 hw) (wd92 hw) (wd37 hw) (wd93 hw) (by decide) (c_uca3_1 l Z a0 hw hEL h0 W711.old ta k_ta _ _ _ c1 fm PSH SFM rfm s4 rfl rfl (StrChars.pair_says r_c.1 r_c.2) r_c) all0 (by decide) (by decide) (k' := 0) (n' := 0) rfl rfl (by decide) (by decide) (by rw [hml]; rfl) (argsL := [(.ref ta), (.int (1 : Int32))]) (rest := []) (lenOf pd_6 rfl) rfl rfl (Wt := 0) (Nat.le_of_eq rfl) (hb hby dc17_21) ?_
    intro T712 W713
    show Go _ _ _ _ _ _ _ _ _ (T712.setTop (mkF m 24 #[.val (.ref xa), .val (.int (1 : Int32))] [(.int c1)]))
    exact W713.retN (z' := c1) (by decide) (by decide) hret (by simp) (hb hby dc17_24) (nar_id r_c) ⟨rfl, rfl⟩
theorem c_ca3_2 (l : Launch) (Z : State) (a0 : Array Value) (hw : HW Z a0) (hEL : EW Z a0 [("java/lang/String", 7)]) (h0 : Heap) (hE0 : Ext Z.heap h0) (xa : Addr) (c0 c1 c2 G1 : Int32) (fm : Value) (SG1 : Sta Z Z.heap "java/lang/String" "COMPACT_STRINGS" "Z" (.int G1)) (hG : ¬ G1 = 0) (PSH : PS3 Z) (SFM : Sta Z Z.heap "jdk/internal/util/Preconditions" "SIOOBE_FORMATTER" "Ljava/util/function/BiFunction;" fm) (rfm : fm.isRef = true) (S_x : Str Z h0 xa [c0, c1, c2]) :
    Con l Z [("java/lang/String", 7)] [] (⟨"java/lang/String", "charAt", "(I)C"⟩ : MethodName) jdk_42_method_56_code 2 (some .char) [] (⟨4, 0, 0, 53⟩ : Room) #[(.ref xa), (.int (2 : Int32))] h0 (fun v h' => v = (some (.int c2)) ∧ h' = h0) := by
  refine Con.mk (plainFor_of_name pn_0) hEL hE0 (fun x hx => by cases hx) ?_
  intro p e s m below meth c T0 hby hml hret hnm W0
  rw [(show entryFrame m #[(.ref xa), (.int (2 : Int32))] 2 = mkF m 0 #[.val (.ref xa), .val (.int (2 : Int32))] [] from by first | (simp [entryFrame, mkF, argsToLocals, Value.category]; done) | rfl)]
  obtain ⟨ta, k_ta, cd, N2, vs, s1, s2, s3, s4, s5, s6⟩ := id S_x
  have r_c := s6 c2 (List.mem_of_getElem? (i := 2) rfl)
  refine Go.by (fun t9_ q9_ => XS.aloadN W0.here W0.hx rfl (hb hby dc17_0) rfl rfl q9_) ?_
  rcases s5 with ⟨rfl, rfl, rfl, hlat⟩ | ⟨rfl, rfl, rfl, -⟩
  · show Go _ _ _ _ _ _ _ _ _ (T0.setTop (mkF m 1 #[.val (.ref xa), .val (.int (2 : Int32))] [(.ref xa)]))
    refine W0.callVp (y := (⟨"java/lang/String", "isLatin1", "()Z"⟩ : MethodName)) (z := (⟨"java/lang/String", "isLatin1", "()Z"⟩ : MethodName)) (wd86 hw) (wd87 hw) (nf_sel rfl (wd89 hw)) (wd89 hw) (wd88 hw) (wd10 hw) (wd90 hw) (by decide) S_x.exa (a := xa) (c_isl0 l Z a0 hw hEL h0 hE0 xa G1 SG1 hG s3) all0 (by decide) (by decide) (k' := 0) (n' := 0) rfl rfl (by decide) (by decide) (by rw [hml]; rfl) (argsL := []) (rest := []) (lenOf pd_12 rfl) rfl rfl (Wt := 0) (Nat.le_of_eq rfl) (hb hby dc17_1) ?_
    intro T714 W715
    refine Go.by (fun t9_ q9_ => XS.ifNo W715.here W715.hx rfl (hb hby dc17_4) rfl ((if0 _ _).trans (feq (by decide)).1) q9_) ?_
    refine Go.by (fun t9_ q9_ => XS.aloadN W715.here W715.hx rfl (hb hby dc17_7) rfl rfl q9_) ?_
    show Go _ _ _ _ _ _ _ _ _ (T714.setTop (mkF m 8 #[.val (.ref xa), .val (.int (2 : Int32))] [(.ref xa)]))
    refine W715.getf (host := "") (Or.inl (wd28 hw)) Via.refl s2 (hb hby dc17_8) ?_
    intro T716 W717
    refine Go.by (fun t9_ q9_ => XS.iloadN W717.here W717.hx rfl (hb hby dc17_11) rfl q9_) ?_
    show Go _ _ _ _ _ _ _ _ _ (T716.setTop (mkF m 12 #[.val (.ref xa), .val (.int (2 : Int32))] [(.int (2 : Int32)), (.ref ta)]))
    refine W717.callSp (y := (⟨"java/lang/StringLatin1", "charAt", "([BI)C"⟩ : MethodName)) (wd108 hw) (wd109 hw) (wd110 hw) (wd111 hw) (by decide) (c_lca l Z a0 hw hEL h0 W717.old ta k_ta _ _ (2 : Int32) _ c2 fm SFM rfm s4 (by decide) (show (2 : Int32) < (3 : Int32) by decide) rfl (StrChars.chr8_lo8 r_c.1 (hlat c2 (List.mem_of_getElem? (i := 2) rfl))) r_c) all0 (by decide) (by decide) (k' := 0) (n' := 0) rfl rfl (by decide) (by decide) (by rw [hml]; rfl) (argsL := [(.ref ta), (.int (2 : Int32))]) (rest := []) (lenOf pd_6 rfl) rfl rfl (Wt := 0) (Nat.le_of_eq rfl) (hb hby dc17_12) ?_
    intro T718 W719
    show Go _ _ _ _ _ _ _ _ _ (T718.setTop (mkF m 15 #[.val (.ref xa), .val (.int (2 : Int32))] [(.int c2)]))
    exact W719.retN (z' := c2) (by decide) (by decide) hret (by simp) (hb hby dc17_15) (nar_id r_c) ⟨rfl, rfl⟩
  · show Go _ _ _ _ _ _ _ _ _ (T0.setTop (mkF m 1 #[.val (.ref xa), .val (.int (2 : Int32))] [(.ref xa)]))
    refine W0.callVp (y := (⟨"java/lang/String", "isLatin1", "()Z"⟩ : MethodName)) (z := (⟨"java/lang/String", "isLatin1", "()Z"⟩ : MethodName)) (wd86 hw) (wd87 hw) (nf_sel rfl (wd89 hw)) (wd89 hw) (wd88 hw) (wd10 hw) (wd90 hw) (by decide) S_x.exa (a := xa) (c_isl l Z a0 hw hEL h0 hE0 xa G1 SG1 hG s3) all0 (by decide) (by decide) (k' := 0) (n' := 0) rfl rfl (by decide) (by decide) (by rw [hml]; rfl) (argsL := []) (rest := []) (lenOf pd_12 rfl) rfl rfl (Wt := 0) (Nat.le_of_eq rfl) (hb hby dc17_1) ?_
    intro T720 W721
    refine Go.by (fun t9_ q9_ => XS.ifYes W721.here W721.hx rfl (pc0 := 4) (pc' := 16) rfl (hb hby dc17_4) rfl ((if0 _ _).trans (teq rfl).1) (by decide) (by decide) q9_) ?_
    refine Go.by (fun t9_ q9_ => XS.aloadN W721.here W721.hx rfl (hb hby dc17_16) rfl rfl q9_) ?_
    show Go _ _ _ _ _ _ _ _ _ (T720.setTop (mkF m 17 #[.val (.ref xa), .val (.int (2 : Int32))] [(.ref xa)]))
    refine W721.getf (host := "") (Or.inl (wd28 hw)) Via.refl s2 (hb hby dc17_17) ?_
    intro T722 W723
    refine Go.by (fun t9_ q9_ => XS.iloadN W723.here W723.hx rfl (hb hby dc17_20) rfl q9_) ?_
    show Go _ _ _ _ _ _ _ _ _ (T722.setTop (mkF m 21 #[.val (.ref xa), .val (.int (2 : Int32))] [(.int (2 : Int32)), (.ref ta)]))
    refine W723.callSp (y := (⟨"java/lang/StringUTF16", "charAt", "([BI)C"⟩ : MethodName)) (wd91 hw) (wd92 hw) (wd37 hw) (wd93 hw) (by decide) (c_uca3_2 l Z a0 hw hEL h0 W723.old ta k_ta _ _ _ c2 fm PSH SFM rfm s4 rfl rfl (StrChars.pair_says r_c.1 r_c.2) r_c) all0 (by decide) (by decide) (k' := 0) (n' := 0) rfl rfl (by decide) (by decide) (by rw [hml]; rfl) (argsL := [(.ref ta), (.int (2 : Int32))]) (rest := []) (lenOf pd_6 rfl) rfl rfl (Wt := 0) (Nat.le_of_eq rfl) (hb hby dc17_21) ?_
    intro T724 W725
    show Go _ _ _ _ _ _ _ _ _ (T724.setTop (mkF m 24 #[.val (.ref xa), .val (.int (2 : Int32))] [(.int c2)]))
    exact W725.retN (z' := c2) (by decide) (by decide) hret (by simp) (hb hby dc17_24) (nar_id r_c) ⟨rfl, rfl⟩
theorem c_ca4_0 (l : Launch) (Z : State) (a0 : Array Value) (hw : HW Z a0) (hEL : EW Z a0 [("java/lang/String", 7)]) (h0 : Heap) (hE0 : Ext Z.heap h0) (xa : Addr) (c0 c1 c2 c3 G1 : Int32) (fm : Value) (SG1 : Sta Z Z.heap "java/lang/String" "COMPACT_STRINGS" "Z" (.int G1)) (hG : ¬ G1 = 0) (PSH : PS3 Z) (SFM : Sta Z Z.heap "jdk/internal/util/Preconditions" "SIOOBE_FORMATTER" "Ljava/util/function/BiFunction;" fm) (rfm : fm.isRef = true) (S_x : Str Z h0 xa [c0, c1, c2, c3]) :
    Con l Z [("java/lang/String", 7)] [] (⟨"java/lang/String", "charAt", "(I)C"⟩ : MethodName) jdk_42_method_56_code 2 (some .char) [] (⟨4, 0, 0, 53⟩ : Room) #[(.ref xa), (.int (0 : Int32))] h0 (fun v h' => v = (some (.int c0)) ∧ h' = h0) := by
  refine Con.mk (plainFor_of_name pn_0) hEL hE0 (fun x hx => by cases hx) ?_
  intro p e s m below meth c T0 hby hml hret hnm W0
  rw [(show entryFrame m #[(.ref xa), (.int (0 : Int32))] 2 = mkF m 0 #[.val (.ref xa), .val (.int (0 : Int32))] [] from by first | (simp [entryFrame, mkF, argsToLocals, Value.category]; done) | rfl)]
  obtain ⟨ta, k_ta, cd, N2, vs, s1, s2, s3, s4, s5, s6⟩ := id S_x
  have r_c := s6 c0 (List.mem_of_getElem? (i := 0) rfl)
  refine Go.by (fun t9_ q9_ => XS.aloadN W0.here W0.hx rfl (hb hby dc17_0) rfl rfl q9_) ?_
  rcases s5 with ⟨rfl, rfl, rfl, hlat⟩ | ⟨rfl, rfl, rfl, -⟩
  · show Go _ _ _ _ _ _ _ _ _ (T0.setTop (mkF m 1 #[.val (.ref xa), .val (.int (0 : Int32))] [(.ref xa)]))
    refine W0.callVp (y := (⟨"java/lang/String", "isLatin1", "()Z"⟩ : MethodName)) (z := (⟨"java/lang/String", "isLatin1", "()Z"⟩ : MethodName)) (wd86 hw) (wd87 hw) (nf_sel rfl (wd89 hw)) (wd89 hw) (wd88 hw) (wd10 hw) (wd90 hw) (by decide) S_x.exa (a := xa) (c_isl0 l Z a0 hw hEL h0 hE0 xa G1 SG1 hG s3) all0 (by decide) (by decide) (k' := 0) (n' := 0) rfl rfl (by decide) (by decide) (by rw [hml]; rfl) (argsL := []) (rest := []) (lenOf pd_12 rfl) rfl rfl (Wt := 0) (Nat.le_of_eq rfl) (hb hby dc17_1) ?_
    intro T726 W727
    refine Go.by (fun t9_ q9_ => XS.ifNo W727.here W727.hx rfl (hb hby dc17_4) rfl ((if0 _ _).trans (feq (by decide)).1) q9_) ?_
    refine Go.by (fun t9_ q9_ => XS.aloadN W727.here W727.hx rfl (hb hby dc17_7) rfl rfl q9_) ?_
    show Go _ _ _ _ _ _ _ _ _ (T726.setTop (mkF m 8 #[.val (.ref xa), .val (.int (0 : Int32))] [(.ref xa)]))
    refine W727.getf (host := "") (Or.inl (wd28 hw)) Via.refl s2 (hb hby dc17_8) ?_
    intro T728 W729
    refine Go.by (fun t9_ q9_ => XS.iloadN W729.here W729.hx rfl (hb hby dc17_11) rfl q9_) ?_
    show Go _ _ _ _ _ _ _ _ _ (T728.setTop (mkF m 12 #[.val (.ref xa), .val (.int (0 : Int32))] [(.int (0 : Int32)), (.ref ta)]))
    refine W729.callSp (y := (⟨"java/lang/StringLatin1", "charAt", "([BI)C"⟩ : MethodName)) (wd108 hw) (wd109 hw) (wd110 hw) (wd111 hw) (by decide) (c_lca l Z a0 hw hEL h0 W729.old ta k_ta _ _ (0 : Int32) _ c0 fm SFM rfm s4 (by decide) (show (0 : Int32) < (4 : Int32) by decide) rfl (StrChars.chr8_lo8 r_c.1 (hlat c0 (List.mem_of_getElem? (i := 0) rfl))) r_c) all0 (by decide) (by decide) (k' := 0) (n' := 0) rfl rfl (by decide) (by decide) (by rw [hml]; rfl) (argsL := [(.ref ta), (.int (0 : Int32))]) (rest := []) (lenOf pd_6 rfl) rfl rfl (Wt := 0) (Nat.le_of_eq rfl) (hb hby dc17_12) ?_
    intro T730 W731
    show Go _ _ _ _ _ _ _ _ _ (T730.setTop (mkF m 15 #[.val (.ref xa), .val (.int (0 : Int32))] [(.int c0)]))
    exact W731.retN (z' := c0) (by decide) (by decide) hret (by simp) (hb hby dc17_15) (nar_id r_c) ⟨rfl, rfl⟩
  · show Go _ _ _ _ _ _ _ _ _ (T0.setTop (mkF m 1 #[.val (.ref xa), .val (.int (0 : Int32))] [(.ref xa)]))
    refine W0.callVp (y := (⟨"java/lang/String", "isLatin1", "()Z"⟩ : MethodName)) (z := (⟨"java/lang/String", "isLatin1", "()Z"⟩ : MethodName)) (wd86 hw) (wd87 hw) (nf_sel rfl (wd89 hw)) (wd89 hw) (wd88 hw) (wd10 hw) (wd90 hw) (by decide) S_x.exa (a := xa) (c_isl l Z a0 hw hEL h0 hE0 xa G1 SG1 hG s3) all0 (by decide) (by decide) (k' := 0) (n' := 0) rfl rfl (by decide) (by decide) (by rw [hml]; rfl) (argsL := []) (rest := []) (lenOf pd_12 rfl) rfl rfl (Wt := 0) (Nat.le_of_eq rfl) (hb hby dc17_1) ?_
    intro T732 W733
    refine Go.by (fun t9_ q9_ => XS.ifYes W733.here W733.hx rfl (pc0 := 4) (pc' := 16) rfl (hb hby dc17_4) rfl ((if0 _ _).trans (teq rfl).1) (by decide) (by decide) q9_) ?_
    refine Go.by (fun t9_ q9_ => XS.aloadN W733.here W733.hx rfl (hb hby dc17_16) rfl rfl q9_) ?_
    show Go _ _ _ _ _ _ _ _ _ (T732.setTop (mkF m 17 #[.val (.ref xa), .val (.int (0 : Int32))] [(.ref xa)]))
    refine W733.getf (host := "") (Or.inl (wd28 hw)) Via.refl s2 (hb hby dc17_17) ?_
    intro T734 W735
    refine Go.by (fun t9_ q9_ => XS.iloadN W735.here W735.hx rfl (hb hby dc17_20) rfl q9_) ?_
    show Go _ _ _ _ _ _ _ _ _ (T734.setTop (mkF m 21 #[.val (.ref xa), .val (.int (0 : Int32))] [(.int (0 : Int32)), (.ref ta)]))
    refine W735.callSp (y := (⟨"java/lang/StringUTF16", "charAt", "([BI)C"⟩ : MethodName)) (wd91 hw) (wd92 hw) (wd37 hw) (wd93 hw) (by decide) (c_uca4_0 l Z a0 hw hEL h0 W735.old ta k_ta _ _ _ c0 fm PSH SFM rfm s4 rfl rfl (StrChars.pair_says r_c.1 r_c.2) r_c) all0 (by decide) (by decide) (k' := 0) (n' := 0) rfl rfl (by decide) (by decide) (by rw [hml]; rfl) (argsL := [(.ref ta), (.int (0 : Int32))]) (rest := []) (lenOf pd_6 rfl) rfl rfl (Wt := 0) (Nat.le_of_eq rfl) (hb hby dc17_21) ?_
    intro T736 W737
    show Go _ _ _ _ _ _ _ _ _ (T736.setTop (mkF m 24 #[.val (.ref xa), .val (.int (0 : Int32))] [(.int c0)]))
    exact W737.retN (z' := c0) (by decide) (by decide) hret (by simp) (hb hby dc17_24) (nar_id r_c) ⟨rfl, rfl⟩
theorem c_ca4_1 (l : Launch) (Z : State) (a0 : Array Value) (hw : HW Z a0) (hEL : EW Z a0 [("java/lang/String", 7)]) (h0 : Heap) (hE0 : Ext Z.heap h0) (xa : Addr) (c0 c1 c2 c3 G1 : Int32) (fm : Value) (SG1 : Sta Z Z.heap "java/lang/String" "COMPACT_STRINGS" "Z" (.int G1)) (hG : ¬ G1 = 0) (PSH : PS3 Z) (SFM : Sta Z Z.heap "jdk/internal/util/Preconditions" "SIOOBE_FORMATTER" "Ljava/util/function/BiFunction;" fm) (rfm : fm.isRef = true) (S_x : Str Z h0 xa [c0, c1, c2, c3]) :
    Con l Z [("java/lang/String", 7)] [] (⟨"java/lang/String", "charAt", "(I)C"⟩ : MethodName) jdk_42_method_56_code 2 (some .char) [] (⟨4, 0, 0, 53⟩ : Room) #[(.ref xa), (.int (1 : Int32))] h0 (fun v h' => v = (some (.int c1)) ∧ h' = h0) := by
  refine Con.mk (plainFor_of_name pn_0) hEL hE0 (fun x hx => by cases hx) ?_
  intro p e s m below meth c T0 hby hml hret hnm W0
  rw [(show entryFrame m #[(.ref xa), (.int (1 : Int32))] 2 = mkF m 0 #[.val (.ref xa), .val (.int (1 : Int32))] [] from by first | (simp [entryFrame, mkF, argsToLocals, Value.category]; done) | rfl)]
  obtain ⟨ta, k_ta, cd, N2, vs, s1, s2, s3, s4, s5, s6⟩ := id S_x
  have r_c := s6 c1 (List.mem_of_getElem? (i := 1) rfl)
  refine Go.by (fun t9_ q9_ => XS.aloadN W0.here W0.hx rfl (hb hby dc17_0) rfl rfl q9_) ?_
  rcases s5 with ⟨rfl, rfl, rfl, hlat⟩ | ⟨rfl, rfl, rfl, -⟩
  · show Go _ _ _ _ _ _ _ _ _ (T0.setTop (mkF m 1 #[.val (.ref xa), .val (.int (1 : Int32))] [(.ref xa)]))
    refine W0.callVp (y := (⟨"java/lang/String", "isLatin1", "()Z"⟩ : MethodName)) (z := (⟨"java/lang/String", "isLatin1", "()Z"⟩ : MethodName)) (wd86 hw) (wd87 hw) (nf_sel rfl (wd89 hw)) (wd89 hw) (wd88 hw) (wd10 hw) (wd90 hw) (by decide) S_x.exa (a := xa) (c_isl0 l Z a0 hw hEL h0 hE0 xa G1 SG1 hG s3) all0 (by decide) (by decide) (k' := 0) (n' := 0) rfl rfl (by decide) (by decide) (by rw [hml]; rfl) (argsL := []) (rest := []) (lenOf pd_12 rfl) rfl rfl (Wt := 0) (Nat.le_of_eq rfl) (hb hby dc17_1) ?_
    intro T738 W739
    refine Go.by (fun t9_ q9_ => XS.ifNo W739.here W739.hx rfl (hb hby dc17_4) rfl ((if0 _ _).trans (feq (by decide)).1) q9_) ?_
    refine Go.by (fun t9_ q9_ => XS.aloadN W739.here W739.hx rfl (hb hby dc17_7) rfl rfl q9_) ?_
    show Go _ _ _ _ _ _ _ _ _ (T738.setTop (mkF m 8 #[.val (.ref xa), .val (.int (1 : Int32))] [(.ref xa)]))
    refine W739.getf (host := "") (Or.inl (wd28 hw)) Via.refl s2 (hb hby dc17_8) ?_
    intro T740 W741
    refine Go.by (fun t9_ q9_ => XS.iloadN W741.here W741.hx rfl (hb hby dc17_11) rfl q9_) ?_
    show Go _ _ _ _ _ _ _ _ _ (T740.setTop (mkF m 12 #[.val (.ref xa), .val (.int (1 : Int32))] [(.int (1 : Int32)), (.ref ta)]))
    refine W741.callSp (y := (⟨"java/lang/StringLatin1", "charAt", "([BI)C"⟩ : MethodName)) (wd108 hw) (wd109 hw) (wd110 hw) (wd111 hw) (by decide) (c_lca l Z a0 hw hEL h0 W741.old ta k_ta _ _ (1 : Int32) _ c1 fm SFM rfm s4 (by decide) (show (1 : Int32) < (4 : Int32) by decide) rfl (StrChars.chr8_lo8 r_c.1 (hlat c1 (List.mem_of_getElem? (i := 1) rfl))) r_c) all0 (by decide) (by decide) (k' := 0) (n' := 0) rfl rfl (by decide) (by decide) (by rw [hml]; rfl) (argsL := [(.ref ta), (.int (1 : Int32))]) (rest := []) (lenOf pd_6 rfl) rfl rfl (Wt := 0) (Nat.le_of_eq rfl) (hb hby dc17_12) ?_
    intro T742 W743
    show Go _ _ _ _ _ _ _ _ _ (T742.setTop (mkF m 15 #[.val (.ref xa), .val (.int (1 : Int32))] [(.int c1)]))
    exact W743.retN (z' := c1) (by decide) (by decide) hret (by simp) (hb hby dc17_15) (nar_id r_c) ⟨rfl, rfl⟩
  · show Go _ _ _ _ _ _ _ _ _ (T0.setTop (mkF m 1 #[.val (.ref xa), .val (.int (1 : Int32))] [(.ref xa)]))
    refine W0.callVp (y := (⟨"java/lang/String", "isLatin1", "()Z"⟩ : MethodName)) (z := (⟨"java/lang/String", "isLatin1", "()Z"⟩ : MethodName)) (wd86 hw) (wd87 hw) (nf_sel rfl (wd89 hw)) (wd89 hw) (wd88 hw) (wd10 hw) (wd90 hw) (by decide) S_x.exa (a := xa) (c_isl l Z a0 hw hEL h0 hE0 xa G1 SG1 hG s3) all0 (by decide) (by decide) (k' := 0) (n' := 0) rfl rfl (by decide) (by decide) (by rw [hml]; rfl) (argsL := []) (rest := []) (lenOf pd_12 rfl) rfl rfl (Wt := 0) (Nat.le_of_eq rfl) (hb hby dc17_1) ?_
    intro T744 W745
    refine Go.by (fun t9_ q9_ => XS.ifYes W745.here W745.hx rfl (pc0 := 4) (pc' := 16) rfl (hb hby dc17_4) rfl ((if0 _ _).trans (teq rfl).1) (by decide) (by decide) q9_) ?_
    refine Go.by (fun t9_ q9_ => XS.aloadN W745.here W745.hx rfl (hb hby dc17_16) rfl rfl q9_) ?_
    show Go _ _ _ _ _ _ _ _ _ (T744.setTop (mkF m 17 #[.val (.ref xa), .val (.int (1 : Int32))] [(.ref xa)]))
    refine W745.getf (host := "") (Or.inl (wd28 hw)) Via.refl s2 (hb hby dc17_17) ?_
    intro T746 W747
    refine Go.by (fun t9_ q9_ => XS.iloadN W747.here W747.hx rfl (hb hby dc17_20) rfl q9_) ?_
    show Go _ _ _ _ _ _ _ _ _ (T746.setTop (mkF m 21 #[.val (.ref xa), .val (.int (1 : Int32))] [(.int (1 : Int32)), (.ref ta)]))
    refine W747.callSp (y := (⟨"java/lang/StringUTF16", "charAt", "([BI)C"⟩ : MethodName)) (wd91 hw) (wd92 hw) (wd37 hw) (wd93 hw) (by decide) (c_uca4_1 l Z a0 hw hEL h0 W747.old ta k_ta _ _ _ c1 fm PSH SFM rfm s4 rfl rfl (StrChars.pair_says r_c.1 r_c.2) r_c) all0 (by decide) (by decide) (k' := 0) (n' := 0) rfl rfl (by decide) (by decide) (by rw [hml]; rfl) (argsL := [(.ref ta), (.int (1 : Int32))]) (rest := []) (lenOf pd_6 rfl) rfl rfl (Wt := 0) (Nat.le_of_eq rfl) (hb hby dc17_21) ?_
    intro T748 W749
    show Go _ _ _ _ _ _ _ _ _ (T748.setTop (mkF m 24 #[.val (.ref xa), .val (.int (1 : Int32))] [(.int c1)]))
    exact W749.retN (z' := c1) (by decide) (by decide) hret (by simp) (hb hby dc17_24) (nar_id r_c) ⟨rfl, rfl⟩
theorem c_ca4_2 (l : Launch) (Z : State) (a0 : Array Value) (hw : HW Z a0) (hEL : EW Z a0 [("java/lang/String", 7)]) (h0 : Heap) (hE0 : Ext Z.heap h0) (xa : Addr) (c0 c1 c2 c3 G1 : Int32) (fm : Value) (SG1 : Sta Z Z.heap "java/lang/String" "COMPACT_STRINGS" "Z" (.int G1)) (hG : ¬ G1 = 0) (PSH : PS3 Z) (SFM : Sta Z Z.heap "jdk/internal/util/Preconditions" "SIOOBE_FORMATTER" "Ljava/util/function/BiFunction;" fm) (rfm : fm.isRef = true) (S_x : Str Z h0 xa [c0, c1, c2, c3]) :
    Con l Z [("java/lang/String", 7)] [] (⟨"java/lang/String", "charAt", "(I)C"⟩ : MethodName) jdk_42_method_56_code 2 (some .char) [] (⟨4, 0, 0, 53⟩ : Room) #[(.ref xa), (.int (2 : Int32))] h0 (fun v h' => v = (some (.int c2)) ∧ h' = h0) := by
  refine Con.mk (plainFor_of_name pn_0) hEL hE0 (fun x hx => by cases hx) ?_
  intro p e s m below meth c T0 hby hml hret hnm W0
  rw [(show entryFrame m #[(.ref xa), (.int (2 : Int32))] 2 = mkF m 0 #[.val (.ref xa), .val (.int (2 : Int32))] [] from by first | (simp [entryFrame, mkF, argsToLocals, Value.category]; done) | rfl)]
  obtain ⟨ta, k_ta, cd, N2, vs, s1, s2, s3, s4, s5, s6⟩ := id S_x
  have r_c := s6 c2 (List.mem_of_getElem? (i := 2) rfl)
  refine Go.by (fun t9_ q9_ => XS.aloadN W0.here W0.hx rfl (hb hby dc17_0) rfl rfl q9_) ?_
  rcases s5 with ⟨rfl, rfl, rfl, hlat⟩ | ⟨rfl, rfl, rfl, -⟩
  · show Go _ _ _ _ _ _ _ _ _ (T0.setTop (mkF m 1 #[.val (.ref xa), .val (.int (2 : Int32))] [(.ref xa)]))
    refine W0.callVp (y := (⟨"java/lang/String", "isLatin1", "()Z"⟩ : MethodName)) (z := (⟨"java/lang/String", "isLatin1", "()Z"⟩ : MethodName)) (wd86 hw) (wd87 hw) (nf_sel rfl (wd89 hw)) (wd89 hw) (wd88 hw) (wd10 hw) (wd90 hw) (by decide) S_x.exa (a := xa) (c_isl0 l Z a0 hw hEL h0 hE0 xa G1 SG1 hG s3) all0 (by decide) (by decide) (k' := 0) (n' := 0) rfl rfl (by decide) (by decide) (by rw [hml]; rfl) (argsL := []) (rest := []) (lenOf pd_12 rfl) rfl rfl (Wt := 0) (Nat.le_of_eq rfl) (hb hby dc17_1) ?_
    intro T750 W751
    refine Go.by (fun t9_ q9_ => XS.ifNo W751.here W751.hx rfl (hb hby dc17_4) rfl ((if0 _ _).trans (feq (by decide)).1) q9_) ?_
    refine Go.by (fun t9_ q9_ => XS.aloadN W751.here W751.hx rfl (hb hby dc17_7) rfl rfl q9_) ?_
    show Go _ _ _ _ _ _ _ _ _ (T750.setTop (mkF m 8 #[.val (.ref xa), .val (.int (2 : Int32))] [(.ref xa)]))
    refine W751.getf (host := "") (Or.inl (wd28 hw)) Via.refl s2 (hb hby dc17_8) ?_
    intro T752 W753
    refine Go.by (fun t9_ q9_ => XS.iloadN W753.here W753.hx rfl (hb hby dc17_11) rfl q9_) ?_
    show Go _ _ _ _ _ _ _ _ _ (T752.setTop (mkF m 12 #[.val (.ref xa), .val (.int (2 : Int32))] [(.int (2 : Int32)), (.ref ta)]))
    refine W753.callSp (y := (⟨"java/lang/StringLatin1", "charAt", "([BI)C"⟩ : MethodName)) (wd108 hw) (wd109 hw) (wd110 hw) (wd111 hw) (by decide) (c_lca l Z a0 hw hEL h0 W753.old ta k_ta _ _ (2 : Int32) _ c2 fm SFM rfm s4 (by decide) (show (2 : Int32) < (4 : Int32) by decide) rfl (StrChars.chr8_lo8 r_c.1 (hlat c2 (List.mem_of_getElem? (i := 2) rfl))) r_c) all0 (by decide) (by decide) (k' := 0) (n' := 0) rfl rfl (by decide) (by decide) (by rw [hml]; rfl) (argsL := [(.ref ta), (.int (2 : Int32))]) (rest := []) (lenOf pd_6 rfl) rfl rfl (Wt := 0) (Nat.le_of_eq rfl) (hb hby dc17_12) ?_
    intro T754 W755
    show Go _ _ _ _ _ _ _ _ _ (T754.setTop (mkF m 15 #[.val (.ref xa), .val (.int (2 : Int32))] [(.int c2)]))
    exact W755.retN (z' := c2) (by decide) (by decide) hret (by simp) (hb hby dc17_15) (nar_id r_c) ⟨rfl, rfl⟩
  · show Go _ _ _ _ _ _ _ _ _ (T0.setTop (mkF m 1 #[.val (.ref xa), .val (.int (2 : Int32))] [(.ref xa)]))
    refine W0.callVp (y := (⟨"java/lang/String", "isLatin1", "()Z"⟩ : MethodName)) (z := (⟨"java/lang/String", "isLatin1", "()Z"⟩ : MethodName)) (wd86 hw) (wd87 hw) (nf_sel rfl (wd89 hw)) (wd89 hw) (wd88 hw) (wd10 hw) (wd90 hw) (by decide) S_x.exa (a := xa) (c_isl l Z a0 hw hEL h0 hE0 xa G1 SG1 hG s3) all0 (by decide) (by decide) (k' := 0) (n' := 0) rfl rfl (by decide) (by decide) (by rw [hml]; rfl) (argsL := []) (rest := []) (lenOf pd_12 rfl) rfl rfl (Wt := 0) (Nat.le_of_eq rfl) (hb hby dc17_1) ?_
    intro T756 W757
    refine Go.by (fun t9_ q9_ => XS.ifYes W757.here W757.hx rfl (pc0 := 4) (pc' := 16) rfl (hb hby dc17_4) rfl ((if0 _ _).trans (teq rfl).1) (by decide) (by decide) q9_) ?_
    refine Go.by (fun t9_ q9_ => XS.aloadN W757.here W757.hx rfl (hb hby dc17_16) rfl rfl q9_) ?_
    show Go _ _ _ _ _ _ _ _ _ (T756.setTop (mkF m 17 #[.val (.ref xa), .val (.int (2 : Int32))] [(.ref xa)]))
    refine W757.getf (host := "") (Or.inl (wd28 hw)) Via.refl s2 (hb hby dc17_17) ?_
    intro T758 W759
    refine Go.by (fun t9_ q9_ => XS.iloadN W759.here W759.hx rfl (hb hby dc17_20) rfl q9_) ?_
    show Go _ _ _ _ _ _ _ _ _ (T758.setTop (mkF m 21 #[.val (.ref xa), .val (.int (2 : Int32))] [(.int (2 : Int32)), (.ref ta)]))
    refine W759.callSp (y := (⟨"java/lang/StringUTF16", "charAt", "([BI)C"⟩ : MethodName)) (wd91 hw) (wd92 hw) (wd37 hw) (wd93 hw) (by decide) (c_uca4_2 l Z a0 hw hEL h0 W759.old ta k_ta _ _ _ c2 fm PSH SFM rfm s4 rfl rfl (StrChars.pair_says r_c.1 r_c.2) r_c) all0 (by decide) (by decide) (k' := 0) (n' := 0) rfl rfl (by decide) (by decide) (by rw [hml]; rfl) (argsL := [(.ref ta), (.int (2 : Int32))]) (rest := []) (lenOf pd_6 rfl) rfl rfl (Wt := 0) (Nat.le_of_eq rfl) (hb hby dc17_21) ?_
    intro T760 W761
    show Go _ _ _ _ _ _ _ _ _ (T760.setTop (mkF m 24 #[.val (.ref xa), .val (.int (2 : Int32))] [(.int c2)]))
    exact W761.retN (z' := c2) (by decide) (by decide) hret (by simp) (hb hby dc17_24) (nar_id r_c) ⟨rfl, rfl⟩
theorem c_ca4_3 (l : Launch) (Z : State) (a0 : Array Value) (hw : HW Z a0) (hEL : EW Z a0 [("java/lang/String", 7)]) (h0 : Heap) (hE0 : Ext Z.heap h0) (xa : Addr) (c0 c1 c2 c3 G1 : Int32) (fm : Value) (SG1 : Sta Z Z.heap "java/lang/String" "COMPACT_STRINGS" "Z" (.int G1)) (hG : ¬ G1 = 0) (PSH : PS3 Z) (SFM : Sta Z Z.heap "jdk/internal/util/Preconditions" "SIOOBE_FORMATTER" "Ljava/util/function/BiFunction;" fm) (rfm : fm.isRef = true) (S_x : Str Z h0 xa [c0, c1, c2, c3]) :
    Con l Z [("java/lang/String", 7)] [] (⟨"java/lang/String", "charAt", "(I)C"⟩ : MethodName) jdk_42_method_56_code 2 (some .char) [] (⟨4, 0, 0, 53⟩ : Room) #[(.ref xa), (.int (3 : Int32))] h0 (fun v h' => v = (some (.int c3)) ∧ h' = h0) := by
  refine Con.mk (plainFor_of_name pn_0) hEL hE0 (fun x hx => by cases hx) ?_
  intro p e s m below meth c T0 hby hml hret hnm W0
  rw [(show entryFrame m #[(.ref xa), (.int (3 : Int32))] 2 = mkF m 0 #[.val (.ref xa), .val (.int (3 : Int32))] [] from by first | (simp [entryFrame, mkF, argsToLocals, Value.category]; done) | rfl)]
  obtain ⟨ta, k_ta, cd, N2, vs, s1, s2, s3, s4, s5, s6⟩ := id S_x
  have r_c := s6 c3 (List.mem_of_getElem? (i := 3) rfl)
  refine Go.by (fun t9_ q9_ => XS.aloadN W0.here W0.hx rfl (hb hby dc17_0) rfl rfl q9_) ?_
  rcases s5 with ⟨rfl, rfl, rfl, hlat⟩ | ⟨rfl, rfl, rfl, -⟩
  · show Go _ _ _ _ _ _ _ _ _ (T0.setTop (mkF m 1 #[.val (.ref xa), .val (.int (3 : Int32))] [(.ref xa)]))
    refine W0.callVp (y := (⟨"java/lang/String", "isLatin1", "()Z"⟩ : MethodName)) (z := (⟨"java/lang/String", "isLatin1", "()Z"⟩ : MethodName)) (wd86 hw) (wd87 hw) (nf_sel rfl (wd89 hw)) (wd89 hw) (wd88 hw) (wd10 hw) (wd90 hw) (by decide) S_x.exa (a := xa) (c_isl0 l Z a0 hw hEL h0 hE0 xa G1 SG1 hG s3) all0 (by decide) (by decide) (k' := 0) (n' := 0) rfl rfl (by decide) (by decide) (by rw [hml]; rfl) (argsL := []) (rest := []) (lenOf pd_12 rfl) rfl rfl (Wt := 0) (Nat.le_of_eq rfl) (hb hby dc17_1) ?_
    intro T762 W763
    refine Go.by (fun t9_ q9_ => XS.ifNo W763.here W763.hx rfl (hb hby dc17_4) rfl ((if0 _ _).trans (feq (by decide)).1) q9_) ?_
    refine Go.by (fun t9_ q9_ => XS.aloadN W763.here W763.hx rfl (hb hby dc17_7) rfl rfl q9_) ?_
    show Go _ _ _ _ _ _ _ _ _ (T762.setTop (mkF m 8 #[.val (.ref xa), .val (.int (3 : Int32))] [(.ref xa)]))
    refine W763.getf (host := "") (Or.inl (wd28 hw)) Via.refl s2 (hb hby dc17_8) ?_
    intro T764 W765
    refine Go.by (fun t9_ q9_ => XS.iloadN W765.here W765.hx rfl (hb hby dc17_11) rfl q9_) ?_
    show Go _ _ _ _ _ _ _ _ _ (T764.setTop (mkF m 12 #[.val (.ref xa), .val (.int (3 : Int32))] [(.int (3 : Int32)), (.ref ta)]))
    refine W765.callSp (y := (⟨"java/lang/StringLatin1", "charAt", "([BI)C"⟩ : MethodName)) (wd108 hw) (wd109 hw) (wd110 hw) (wd111 hw) (by decide) (c_lca l Z a0 hw hEL h0 W765.old ta k_ta _ _ (3 : Int32) _ c3 fm SFM rfm s4 (by decide) (show (3 : Int32) < (4 : Int32) by decide) rfl (StrChars.chr8_lo8 r_c.1 (hlat c3 (List.mem_of_getElem? (i := 3) rfl))) r_c) all0 (by decide) (by decide) (k' := 0) (n' := 0) rfl rfl (by decide) (by decide) (by rw [hml]; rfl) (argsL := [(.ref ta), (.int (3 : Int32))]) (rest := []) (lenOf pd_6 rfl) rfl rfl (Wt := 0) (Nat.le_of_eq rfl) (hb hby dc17_12) ?_
    intro T766 W767
    show Go _ _ _ _ _ _ _ _ _ (T766.setTop (mkF m 15 #[.val (.ref xa), .val (.int (3 : Int32))] [(.int c3)]))
    exact W767.retN (z' := c3) (by decide) (by decide) hret (by simp) (hb hby dc17_15) (nar_id r_c) ⟨rfl, rfl⟩
  · show Go _ _ _ _ _ _ _ _ _ (T0.setTop (mkF m 1 #[.val (.ref xa), .val (.int (3 : Int32))] [(.ref xa)]))
    refine W0.callVp (y := (⟨"java/lang/String", "isLatin1", "()Z"⟩ : MethodName)) (z := (⟨"java/lang/String", "isLatin1", "()Z"⟩ : MethodName)) (wd86 hw) (wd87 hw) (nf_sel rfl (wd89 hw)) (wd89 hw) (wd88 hw) (wd10 hw) (wd90 hw) (by decide) S_x.exa (a := xa) (c_isl l Z a0 hw hEL h0 hE0 xa G1 SG1 hG s3) all0 (by decide) (by decide) (k' := 0) (n' := 0) rfl rfl (by decide) (by decide) (by rw [hml]; rfl) (argsL := []) (rest := []) (lenOf pd_12 rfl) rfl rfl (Wt := 0) (Nat.le_of_eq rfl) (hb hby dc17_1) ?_
    intro T768 W769
    refine Go.by (fun t9_ q9_ => XS.ifYes W769.here W769.hx rfl (pc0 := 4) (pc' := 16) rfl (hb hby dc17_4) rfl ((if0 _ _).trans (teq rfl).1) (by decide) (by decide) q9_) ?_
    refine Go.by (fun t9_ q9_ => XS.aloadN W769.here W769.hx rfl (hb hby dc17_16) rfl rfl q9_) ?_
    show Go _ _ _ _ _ _ _ _ _ (T768.setTop (mkF m 17 #[.val (.ref xa), .val (.int (3 : Int32))] [(.ref xa)]))
    refine W769.getf (host := "") (Or.inl (wd28 hw)) Via.refl s2 (hb hby dc17_17) ?_
    intro T770 W771
    refine Go.by (fun t9_ q9_ => XS.iloadN W771.here W771.hx rfl (hb hby dc17_20) rfl q9_) ?_
    show Go _ _ _ _ _ _ _ _ _ (T770.setTop (mkF m 21 #[.val (.ref xa), .val (.int (3 : Int32))] [(.int (3 : Int32)), (.ref ta)]))
    refine W771.callSp (y := (⟨"java/lang/StringUTF16", "charAt", "([BI)C"⟩ : MethodName)) (wd91 hw) (wd92 hw) (wd37 hw) (wd93 hw) (by decide) (c_uca4_3 l Z a0 hw hEL h0 W771.old ta k_ta _ _ _ c3 fm PSH SFM rfm s4 rfl rfl (StrChars.pair_says r_c.1 r_c.2) r_c) all0 (by decide) (by decide) (k' := 0) (n' := 0) rfl rfl (by decide) (by decide) (by rw [hml]; rfl) (argsL := [(.ref ta), (.int (3 : Int32))]) (rest := []) (lenOf pd_6 rfl) rfl rfl (Wt := 0) (Nat.le_of_eq rfl) (hb hby dc17_21) ?_
    intro T772 W773
    show Go _ _ _ _ _ _ _ _ _ (T772.setTop (mkF m 24 #[.val (.ref xa), .val (.int (3 : Int32))] [(.int c3)]))
    exact W773.retN (z' := c3) (by decide) (by decide) hret (by simp) (hb hby dc17_24) (nar_id r_c) ⟨rfl, rfl⟩
theorem c_draw0 (l : Launch) (Z : State) (a0 : Array Value) (hw : HW Z a0) (hEL : EW Z a0 [("java/lang/String", 7)]) (h0 : Heap) (hE0 : Ext Z.heap h0) (ch : Int64) (ss : Int32)  :
    Con l Z [("java/lang/String", 7)] [] (⟨"com/example/kontraktbuch/kontraktbuch/NotationIsDigitsPinLaw", "draw", "(JII)C"⟩ : MethodName) method_2_code 5 (some .char) [] (⟨0, 0, 0, 0⟩ : Room) #[(.long ch), (.int ss), (.int (0 : Int32))] h0 (fun v h' => (∃ z, v = some (.int z) ∧ (¬ z < 0 ∧ ¬ (65535 : Int32) < z)) ∧ h' = h0) := by
  refine Con.mk (plainFor_of_name pn_4) hEL hE0 (fun x hx => by cases hx) ?_
  intro p e s m below meth c T0 hby hml hret hnm W0
  rw [(show entryFrame m #[(.long ch), (.int ss), (.int (0 : Int32))] 5 = mkF m 0 #[.val (.long ch), .second, .val (.int ss), .val (.int (0 : Int32)), .unset] [] from by first | (simp [entryFrame, mkF, argsToLocals, Value.category]; done) | rfl)]
  refine Go.by (fun t9_ q9_ => XS.lloadN W0.here W0.hx rfl (hb hby dc18_0) rfl (XS.bipush W0.here W0.hx rfl (hb hby dc18_1) (XS.iloadN W0.here W0.hx rfl (hb hby dc18_3) rfl (XS.imul W0.here W0.hx rfl (hb hby dc18_4) rfl (XS.lushr W0.here W0.hx rfl (hb hby dc18_5) rfl q9_))))) ?_
  show Go _ _ _ _ _ _ _ _ _ (T0.setTop (mkF m 6 #[.val (.long ch), .second, .val (.int ss), .val (.int (0 : Int32)), .unset] [(.long ((ch.toUInt64 >>> (((16 : Int32) * (0 : Int32)) &&& 0x3f).toInt64.toUInt64).toInt64))]))
  refine W0.ldcJ (wd4 hw) (hb hby dc18_6) ?_
  refine Go.by (fun t9_ q9_ => XS.land W0.here W0.hx rfl (hb hby dc18_9) rfl (XS.l2i W0.here W0.hx rfl (hb hby dc18_10) rfl (XS.istore W0.here W0.hx rfl (hb hby dc18_11) rfl (l' := #[.val (.long ch), .second, .val (.int ss), .val (.int (0 : Int32)), .val (.int ((((ch.toUInt64 >>> (((16 : Int32) * (0 : Int32)) &&& 0x3f).toInt64.toUInt64).toInt64) &&& (65535 : Int64)).toInt32))]) rfl (XS.iloadN W0.here W0.hx rfl (hb hby dc18_13) rfl (XS.sipush W0.here W0.hx rfl (hb hby dc18_14) (XS.iloadN W0.here W0.hx rfl (hb hby dc18_17) rfl (XS.ishl W0.here W0.hx rfl (hb hby dc18_18) rfl (XS.iand W0.here W0.hx rfl (hb hby dc18_19) rfl q9_)))))))) ?_
  by_cases h1 : (ss &&& ((256 : Int32) <<< ((0 : Int32) &&& 31))) = (0 : Int32)
  · refine Go.by (fun t9_ q9_ => XS.ifYes W0.here W0.hx rfl (pc0 := 20) (pc' := 33) rfl (hb hby dc18_20) rfl ((if0 _ _).trans (teq h1).1) (by decide) (by decide) q9_) ?_
    refine Go.by (fun t9_ q9_ => XS.iload W0.here W0.hx rfl (hb hby dc18_33) rfl (XS.i2c W0.here W0.hx rfl (hb hby dc18_35) rfl q9_)) ?_
    show Go _ _ _ _ _ _ _ _ _ (T0.setTop (mkF m 36 #[.val (.long ch), .second, .val (.int ss), .val (.int (0 : Int32)), .val (.int ((((ch.toUInt64 >>> (((16 : Int32) * (0 : Int32)) &&& 0x3f).toInt64.toUInt64).toInt64) &&& (65535 : Int64)).toInt32))] [(.int (((((ch.toUInt64 >>> (((16 : Int32) * (0 : Int32)) &&& 0x3f).toInt64.toUInt64).toInt64) &&& (65535 : Int64)).toInt32).toUInt32.toUInt16.toUInt32.toInt32))]))
    exact W0.retN (z' := (((((ch.toUInt64 >>> (((16 : Int32) * (0 : Int32)) &&& 0x3f).toInt64.toUInt64).toInt64) &&& (65535 : Int64)).toInt32).toUInt32.toUInt16.toUInt32.toInt32)) (by decide) (by decide) hret (by simp) (hb hby dc18_36) (nar_i2c _) ⟨⟨_, rfl, i2c_rng _⟩, rfl⟩
  · refine Go.by (fun t9_ q9_ => XS.ifNo W0.here W0.hx rfl (hb hby dc18_20) rfl ((if0 _ _).trans (feq h1).1) q9_) ?_
    refine Go.by (fun t9_ q9_ => XS.bipush W0.here W0.hx rfl (hb hby dc18_23) (XS.iload W0.here W0.hx rfl (hb hby dc18_25) rfl (XS.bipush W0.here W0.hx rfl (hb hby dc18_27) (XS.iand W0.here W0.hx rfl (hb hby dc18_29) rfl (XS.iadd W0.here W0.hx rfl (hb hby dc18_30) rfl (XS.i2c W0.here W0.hx rfl (hb hby dc18_31) rfl q9_)))))) ?_
    show Go _ _ _ _ _ _ _ _ _ (T0.setTop (mkF m 32 #[.val (.long ch), .second, .val (.int ss), .val (.int (0 : Int32)), .val (.int ((((ch.toUInt64 >>> (((16 : Int32) * (0 : Int32)) &&& 0x3f).toInt64.toUInt64).toInt64) &&& (65535 : Int64)).toInt32))] [(.int (((47 : Int32) + (((((ch.toUInt64 >>> (((16 : Int32) * (0 : Int32)) &&& 0x3f).toInt64.toUInt64).toInt64) &&& (65535 : Int64)).toInt32) &&& (15 : Int32))).toUInt32.toUInt16.toUInt32.toInt32))]))
    exact W0.retN (z' := (((47 : Int32) + (((((ch.toUInt64 >>> (((16 : Int32) * (0 : Int32)) &&& 0x3f).toInt64.toUInt64).toInt64) &&& (65535 : Int64)).toInt32) &&& (15 : Int32))).toUInt32.toUInt16.toUInt32.toInt32)) (by decide) (by decide) hret (by simp) (hb hby dc18_32) (nar_i2c _) ⟨⟨_, rfl, i2c_rng _⟩, rfl⟩
theorem c_draw1 (l : Launch) (Z : State) (a0 : Array Value) (hw : HW Z a0) (hEL : EW Z a0 [("java/lang/String", 7)]) (h0 : Heap) (hE0 : Ext Z.heap h0) (ch : Int64) (ss : Int32)  :
    Con l Z [("java/lang/String", 7)] [] (⟨"com/example/kontraktbuch/kontraktbuch/NotationIsDigitsPinLaw", "draw", "(JII)C"⟩ : MethodName) method_2_code 5 (some .char) [] (⟨0, 0, 0, 0⟩ : Room) #[(.long ch), (.int ss), (.int (1 : Int32))] h0 (fun v h' => (∃ z, v = some (.int z) ∧ (¬ z < 0 ∧ ¬ (65535 : Int32) < z)) ∧ h' = h0) := by
  refine Con.mk (plainFor_of_name pn_4) hEL hE0 (fun x hx => by cases hx) ?_
  intro p e s m below meth c T0 hby hml hret hnm W0
  rw [(show entryFrame m #[(.long ch), (.int ss), (.int (1 : Int32))] 5 = mkF m 0 #[.val (.long ch), .second, .val (.int ss), .val (.int (1 : Int32)), .unset] [] from by first | (simp [entryFrame, mkF, argsToLocals, Value.category]; done) | rfl)]
  refine Go.by (fun t9_ q9_ => XS.lloadN W0.here W0.hx rfl (hb hby dc18_0) rfl (XS.bipush W0.here W0.hx rfl (hb hby dc18_1) (XS.iloadN W0.here W0.hx rfl (hb hby dc18_3) rfl (XS.imul W0.here W0.hx rfl (hb hby dc18_4) rfl (XS.lushr W0.here W0.hx rfl (hb hby dc18_5) rfl q9_))))) ?_
  show Go _ _ _ _ _ _ _ _ _ (T0.setTop (mkF m 6 #[.val (.long ch), .second, .val (.int ss), .val (.int (1 : Int32)), .unset] [(.long ((ch.toUInt64 >>> (((16 : Int32) * (1 : Int32)) &&& 0x3f).toInt64.toUInt64).toInt64))]))
  refine W0.ldcJ (wd4 hw) (hb hby dc18_6) ?_
  refine Go.by (fun t9_ q9_ => XS.land W0.here W0.hx rfl (hb hby dc18_9) rfl (XS.l2i W0.here W0.hx rfl (hb hby dc18_10) rfl (XS.istore W0.here W0.hx rfl (hb hby dc18_11) rfl (l' := #[.val (.long ch), .second, .val (.int ss), .val (.int (1 : Int32)), .val (.int ((((ch.toUInt64 >>> (((16 : Int32) * (1 : Int32)) &&& 0x3f).toInt64.toUInt64).toInt64) &&& (65535 : Int64)).toInt32))]) rfl (XS.iloadN W0.here W0.hx rfl (hb hby dc18_13) rfl (XS.sipush W0.here W0.hx rfl (hb hby dc18_14) (XS.iloadN W0.here W0.hx rfl (hb hby dc18_17) rfl (XS.ishl W0.here W0.hx rfl (hb hby dc18_18) rfl (XS.iand W0.here W0.hx rfl (hb hby dc18_19) rfl q9_)))))))) ?_
  by_cases h1 : (ss &&& ((256 : Int32) <<< ((1 : Int32) &&& 31))) = (0 : Int32)
  · refine Go.by (fun t9_ q9_ => XS.ifYes W0.here W0.hx rfl (pc0 := 20) (pc' := 33) rfl (hb hby dc18_20) rfl ((if0 _ _).trans (teq h1).1) (by decide) (by decide) q9_) ?_
    refine Go.by (fun t9_ q9_ => XS.iload W0.here W0.hx rfl (hb hby dc18_33) rfl (XS.i2c W0.here W0.hx rfl (hb hby dc18_35) rfl q9_)) ?_
    show Go _ _ _ _ _ _ _ _ _ (T0.setTop (mkF m 36 #[.val (.long ch), .second, .val (.int ss), .val (.int (1 : Int32)), .val (.int ((((ch.toUInt64 >>> (((16 : Int32) * (1 : Int32)) &&& 0x3f).toInt64.toUInt64).toInt64) &&& (65535 : Int64)).toInt32))] [(.int (((((ch.toUInt64 >>> (((16 : Int32) * (1 : Int32)) &&& 0x3f).toInt64.toUInt64).toInt64) &&& (65535 : Int64)).toInt32).toUInt32.toUInt16.toUInt32.toInt32))]))
    exact W0.retN (z' := (((((ch.toUInt64 >>> (((16 : Int32) * (1 : Int32)) &&& 0x3f).toInt64.toUInt64).toInt64) &&& (65535 : Int64)).toInt32).toUInt32.toUInt16.toUInt32.toInt32)) (by decide) (by decide) hret (by simp) (hb hby dc18_36) (nar_i2c _) ⟨⟨_, rfl, i2c_rng _⟩, rfl⟩
  · refine Go.by (fun t9_ q9_ => XS.ifNo W0.here W0.hx rfl (hb hby dc18_20) rfl ((if0 _ _).trans (feq h1).1) q9_) ?_
    refine Go.by (fun t9_ q9_ => XS.bipush W0.here W0.hx rfl (hb hby dc18_23) (XS.iload W0.here W0.hx rfl (hb hby dc18_25) rfl (XS.bipush W0.here W0.hx rfl (hb hby dc18_27) (XS.iand W0.here W0.hx rfl (hb hby dc18_29) rfl (XS.iadd W0.here W0.hx rfl (hb hby dc18_30) rfl (XS.i2c W0.here W0.hx rfl (hb hby dc18_31) rfl q9_)))))) ?_
    show Go _ _ _ _ _ _ _ _ _ (T0.setTop (mkF m 32 #[.val (.long ch), .second, .val (.int ss), .val (.int (1 : Int32)), .val (.int ((((ch.toUInt64 >>> (((16 : Int32) * (1 : Int32)) &&& 0x3f).toInt64.toUInt64).toInt64) &&& (65535 : Int64)).toInt32))] [(.int (((47 : Int32) + (((((ch.toUInt64 >>> (((16 : Int32) * (1 : Int32)) &&& 0x3f).toInt64.toUInt64).toInt64) &&& (65535 : Int64)).toInt32) &&& (15 : Int32))).toUInt32.toUInt16.toUInt32.toInt32))]))
    exact W0.retN (z' := (((47 : Int32) + (((((ch.toUInt64 >>> (((16 : Int32) * (1 : Int32)) &&& 0x3f).toInt64.toUInt64).toInt64) &&& (65535 : Int64)).toInt32) &&& (15 : Int32))).toUInt32.toUInt16.toUInt32.toInt32)) (by decide) (by decide) hret (by simp) (hb hby dc18_32) (nar_i2c _) ⟨⟨_, rfl, i2c_rng _⟩, rfl⟩
theorem c_draw2 (l : Launch) (Z : State) (a0 : Array Value) (hw : HW Z a0) (hEL : EW Z a0 [("java/lang/String", 7)]) (h0 : Heap) (hE0 : Ext Z.heap h0) (ch : Int64) (ss : Int32)  :
    Con l Z [("java/lang/String", 7)] [] (⟨"com/example/kontraktbuch/kontraktbuch/NotationIsDigitsPinLaw", "draw", "(JII)C"⟩ : MethodName) method_2_code 5 (some .char) [] (⟨0, 0, 0, 0⟩ : Room) #[(.long ch), (.int ss), (.int (2 : Int32))] h0 (fun v h' => (∃ z, v = some (.int z) ∧ (¬ z < 0 ∧ ¬ (65535 : Int32) < z)) ∧ h' = h0) := by
  refine Con.mk (plainFor_of_name pn_4) hEL hE0 (fun x hx => by cases hx) ?_
  intro p e s m below meth c T0 hby hml hret hnm W0
  rw [(show entryFrame m #[(.long ch), (.int ss), (.int (2 : Int32))] 5 = mkF m 0 #[.val (.long ch), .second, .val (.int ss), .val (.int (2 : Int32)), .unset] [] from by first | (simp [entryFrame, mkF, argsToLocals, Value.category]; done) | rfl)]
  refine Go.by (fun t9_ q9_ => XS.lloadN W0.here W0.hx rfl (hb hby dc18_0) rfl (XS.bipush W0.here W0.hx rfl (hb hby dc18_1) (XS.iloadN W0.here W0.hx rfl (hb hby dc18_3) rfl (XS.imul W0.here W0.hx rfl (hb hby dc18_4) rfl (XS.lushr W0.here W0.hx rfl (hb hby dc18_5) rfl q9_))))) ?_
  show Go _ _ _ _ _ _ _ _ _ (T0.setTop (mkF m 6 #[.val (.long ch), .second, .val (.int ss), .val (.int (2 : Int32)), .unset] [(.long ((ch.toUInt64 >>> (((16 : Int32) * (2 : Int32)) &&& 0x3f).toInt64.toUInt64).toInt64))]))
  refine W0.ldcJ (wd4 hw) (hb hby dc18_6) ?_
  refine Go.by (fun t9_ q9_ => XS.land W0.here W0.hx rfl (hb hby dc18_9) rfl (XS.l2i W0.here W0.hx rfl (hb hby dc18_10) rfl (XS.istore W0.here W0.hx rfl (hb hby dc18_11) rfl (l' := #[.val (.long ch), .second, .val (.int ss), .val (.int (2 : Int32)), .val (.int ((((ch.toUInt64 >>> (((16 : Int32) * (2 : Int32)) &&& 0x3f).toInt64.toUInt64).toInt64) &&& (65535 : Int64)).toInt32))]) rfl (XS.iloadN W0.here W0.hx rfl (hb hby dc18_13) rfl (XS.sipush W0.here W0.hx rfl (hb hby dc18_14) (XS.iloadN W0.here W0.hx rfl (hb hby dc18_17) rfl (XS.ishl W0.here W0.hx rfl (hb hby dc18_18) rfl (XS.iand W0.here W0.hx rfl (hb hby dc18_19) rfl q9_)))))))) ?_
  by_cases h1 : (ss &&& ((256 : Int32) <<< ((2 : Int32) &&& 31))) = (0 : Int32)
  · refine Go.by (fun t9_ q9_ => XS.ifYes W0.here W0.hx rfl (pc0 := 20) (pc' := 33) rfl (hb hby dc18_20) rfl ((if0 _ _).trans (teq h1).1) (by decide) (by decide) q9_) ?_
    refine Go.by (fun t9_ q9_ => XS.iload W0.here W0.hx rfl (hb hby dc18_33) rfl (XS.i2c W0.here W0.hx rfl (hb hby dc18_35) rfl q9_)) ?_
    show Go _ _ _ _ _ _ _ _ _ (T0.setTop (mkF m 36 #[.val (.long ch), .second, .val (.int ss), .val (.int (2 : Int32)), .val (.int ((((ch.toUInt64 >>> (((16 : Int32) * (2 : Int32)) &&& 0x3f).toInt64.toUInt64).toInt64) &&& (65535 : Int64)).toInt32))] [(.int (((((ch.toUInt64 >>> (((16 : Int32) * (2 : Int32)) &&& 0x3f).toInt64.toUInt64).toInt64) &&& (65535 : Int64)).toInt32).toUInt32.toUInt16.toUInt32.toInt32))]))
    exact W0.retN (z' := (((((ch.toUInt64 >>> (((16 : Int32) * (2 : Int32)) &&& 0x3f).toInt64.toUInt64).toInt64) &&& (65535 : Int64)).toInt32).toUInt32.toUInt16.toUInt32.toInt32)) (by decide) (by decide) hret (by simp) (hb hby dc18_36) (nar_i2c _) ⟨⟨_, rfl, i2c_rng _⟩, rfl⟩
  · refine Go.by (fun t9_ q9_ => XS.ifNo W0.here W0.hx rfl (hb hby dc18_20) rfl ((if0 _ _).trans (feq h1).1) q9_) ?_
    refine Go.by (fun t9_ q9_ => XS.bipush W0.here W0.hx rfl (hb hby dc18_23) (XS.iload W0.here W0.hx rfl (hb hby dc18_25) rfl (XS.bipush W0.here W0.hx rfl (hb hby dc18_27) (XS.iand W0.here W0.hx rfl (hb hby dc18_29) rfl (XS.iadd W0.here W0.hx rfl (hb hby dc18_30) rfl (XS.i2c W0.here W0.hx rfl (hb hby dc18_31) rfl q9_)))))) ?_
    show Go _ _ _ _ _ _ _ _ _ (T0.setTop (mkF m 32 #[.val (.long ch), .second, .val (.int ss), .val (.int (2 : Int32)), .val (.int ((((ch.toUInt64 >>> (((16 : Int32) * (2 : Int32)) &&& 0x3f).toInt64.toUInt64).toInt64) &&& (65535 : Int64)).toInt32))] [(.int (((47 : Int32) + (((((ch.toUInt64 >>> (((16 : Int32) * (2 : Int32)) &&& 0x3f).toInt64.toUInt64).toInt64) &&& (65535 : Int64)).toInt32) &&& (15 : Int32))).toUInt32.toUInt16.toUInt32.toInt32))]))
    exact W0.retN (z' := (((47 : Int32) + (((((ch.toUInt64 >>> (((16 : Int32) * (2 : Int32)) &&& 0x3f).toInt64.toUInt64).toInt64) &&& (65535 : Int64)).toInt32) &&& (15 : Int32))).toUInt32.toUInt16.toUInt32.toInt32)) (by decide) (by decide) hret (by simp) (hb hby dc18_32) (nar_i2c _) ⟨⟨_, rfl, i2c_rng _⟩, rfl⟩
theorem c_draw3 (l : Launch) (Z : State) (a0 : Array Value) (hw : HW Z a0) (hEL : EW Z a0 [("java/lang/String", 7)]) (h0 : Heap) (hE0 : Ext Z.heap h0) (ch : Int64) (ss : Int32)  :
    Con l Z [("java/lang/String", 7)] [] (⟨"com/example/kontraktbuch/kontraktbuch/NotationIsDigitsPinLaw", "draw", "(JII)C"⟩ : MethodName) method_2_code 5 (some .char) [] (⟨0, 0, 0, 0⟩ : Room) #[(.long ch), (.int ss), (.int (3 : Int32))] h0 (fun v h' => (∃ z, v = some (.int z) ∧ (¬ z < 0 ∧ ¬ (65535 : Int32) < z)) ∧ h' = h0) := by
  refine Con.mk (plainFor_of_name pn_4) hEL hE0 (fun x hx => by cases hx) ?_
  intro p e s m below meth c T0 hby hml hret hnm W0
  rw [(show entryFrame m #[(.long ch), (.int ss), (.int (3 : Int32))] 5 = mkF m 0 #[.val (.long ch), .second, .val (.int ss), .val (.int (3 : Int32)), .unset] [] from by first | (simp [entryFrame, mkF, argsToLocals, Value.category]; done) | rfl)]
  refine Go.by (fun t9_ q9_ => XS.lloadN W0.here W0.hx rfl (hb hby dc18_0) rfl (XS.bipush W0.here W0.hx rfl (hb hby dc18_1) (XS.iloadN W0.here W0.hx rfl (hb hby dc18_3) rfl (XS.imul W0.here W0.hx rfl (hb hby dc18_4) rfl (XS.lushr W0.here W0.hx rfl (hb hby dc18_5) rfl q9_))))) ?_
  show Go _ _ _ _ _ _ _ _ _ (T0.setTop (mkF m 6 #[.val (.long ch), .second, .val (.int ss), .val (.int (3 : Int32)), .unset] [(.long ((ch.toUInt64 >>> (((16 : Int32) * (3 : Int32)) &&& 0x3f).toInt64.toUInt64).toInt64))]))
  refine W0.ldcJ (wd4 hw) (hb hby dc18_6) ?_
  refine Go.by (fun t9_ q9_ => XS.land W0.here W0.hx rfl (hb hby dc18_9) rfl (XS.l2i W0.here W0.hx rfl (hb hby dc18_10) rfl (XS.istore W0.here W0.hx rfl (hb hby dc18_11) rfl (l' := #[.val (.long ch), .second, .val (.int ss), .val (.int (3 : Int32)), .val (.int ((((ch.toUInt64 >>> (((16 : Int32) * (3 : Int32)) &&& 0x3f).toInt64.toUInt64).toInt64) &&& (65535 : Int64)).toInt32))]) rfl (XS.iloadN W0.here W0.hx rfl (hb hby dc18_13) rfl (XS.sipush W0.here W0.hx rfl (hb hby dc18_14) (XS.iloadN W0.here W0.hx rfl (hb hby dc18_17) rfl (XS.ishl W0.here W0.hx rfl (hb hby dc18_18) rfl (XS.iand W0.here W0.hx rfl (hb hby dc18_19) rfl q9_)))))))) ?_
  by_cases h1 : (ss &&& ((256 : Int32) <<< ((3 : Int32) &&& 31))) = (0 : Int32)
  · refine Go.by (fun t9_ q9_ => XS.ifYes W0.here W0.hx rfl (pc0 := 20) (pc' := 33) rfl (hb hby dc18_20) rfl ((if0 _ _).trans (teq h1).1) (by decide) (by decide) q9_) ?_
    refine Go.by (fun t9_ q9_ => XS.iload W0.here W0.hx rfl (hb hby dc18_33) rfl (XS.i2c W0.here W0.hx rfl (hb hby dc18_35) rfl q9_)) ?_
    show Go _ _ _ _ _ _ _ _ _ (T0.setTop (mkF m 36 #[.val (.long ch), .second, .val (.int ss), .val (.int (3 : Int32)), .val (.int ((((ch.toUInt64 >>> (((16 : Int32) * (3 : Int32)) &&& 0x3f).toInt64.toUInt64).toInt64) &&& (65535 : Int64)).toInt32))] [(.int (((((ch.toUInt64 >>> (((16 : Int32) * (3 : Int32)) &&& 0x3f).toInt64.toUInt64).toInt64) &&& (65535 : Int64)).toInt32).toUInt32.toUInt16.toUInt32.toInt32))]))
    exact W0.retN (z' := (((((ch.toUInt64 >>> (((16 : Int32) * (3 : Int32)) &&& 0x3f).toInt64.toUInt64).toInt64) &&& (65535 : Int64)).toInt32).toUInt32.toUInt16.toUInt32.toInt32)) (by decide) (by decide) hret (by simp) (hb hby dc18_36) (nar_i2c _) ⟨⟨_, rfl, i2c_rng _⟩, rfl⟩
  · refine Go.by (fun t9_ q9_ => XS.ifNo W0.here W0.hx rfl (hb hby dc18_20) rfl ((if0 _ _).trans (feq h1).1) q9_) ?_
    refine Go.by (fun t9_ q9_ => XS.bipush W0.here W0.hx rfl (hb hby dc18_23) (XS.iload W0.here W0.hx rfl (hb hby dc18_25) rfl (XS.bipush W0.here W0.hx rfl (hb hby dc18_27) (XS.iand W0.here W0.hx rfl (hb hby dc18_29) rfl (XS.iadd W0.here W0.hx rfl (hb hby dc18_30) rfl (XS.i2c W0.here W0.hx rfl (hb hby dc18_31) rfl q9_)))))) ?_
    show Go _ _ _ _ _ _ _ _ _ (T0.setTop (mkF m 32 #[.val (.long ch), .second, .val (.int ss), .val (.int (3 : Int32)), .val (.int ((((ch.toUInt64 >>> (((16 : Int32) * (3 : Int32)) &&& 0x3f).toInt64.toUInt64).toInt64) &&& (65535 : Int64)).toInt32))] [(.int (((47 : Int32) + (((((ch.toUInt64 >>> (((16 : Int32) * (3 : Int32)) &&& 0x3f).toInt64.toUInt64).toInt64) &&& (65535 : Int64)).toInt32) &&& (15 : Int32))).toUInt32.toUInt16.toUInt32.toInt32))]))
    exact W0.retN (z' := (((47 : Int32) + (((((ch.toUInt64 >>> (((16 : Int32) * (3 : Int32)) &&& 0x3f).toInt64.toUInt64).toInt64) &&& (65535 : Int64)).toInt32) &&& (15 : Int32))).toUInt32.toUInt16.toUInt32.toInt32)) (by decide) (by decide) hret (by simp) (hb hby dc18_32) (nar_i2c _) ⟨⟨_, rfl, i2c_rng _⟩, rfl⟩
theorem c_dig (l : Launch) (Z : State) (a0 : Array Value) (hw : HW Z a0) (hEL : EW Z a0 [("java/lang/String", 7)]) (h0 : Heap) (hE0 : Ext Z.heap h0) (cc : Int32)  :
    Con l Z [("java/lang/String", 7)] [] (⟨"com/example/kontraktbuch/kontraktbuch/NotationIsDigitsPinLaw", "asciiDigit", "(C)Z"⟩ : MethodName) method_3_code 1 (some .boolean) [] (⟨0, 0, 0, 0⟩ : Room) #[(.int cc)] h0 (fun v h' => v = (some (.int (if cc < (48 : Int32) then (0 : Int32) else if (57 : Int32) < cc then 0 else 1))) ∧ h' = h0) := by
  refine Con.mk (plainFor_of_name pn_4) hEL hE0 (fun x hx => by cases hx) ?_
  intro p e s m below meth c T0 hby hml hret hnm W0
  rw [(show entryFrame m #[(.int cc)] 1 = mkF m 0 #[.val (.int cc)] [] from by first | (simp [entryFrame, mkF, argsToLocals, Value.category]; done) | rfl)]
  refine Go.by (fun t9_ q9_ => XS.bipush W0.here W0.hx rfl (hb hby dc19_0) (XS.iloadN W0.here W0.hx rfl (hb hby dc19_2) rfl q9_)) ?_
  by_cases d1 : cc < (48 : Int32)
  · refine Go.by (fun t9_ q9_ => XS.icmpYes W0.here W0.hx rfl (pc0 := 3) (pc' := 16) rfl (hb hby dc19_3) rfl (tlt d1).2.2.1 (by decide) (by decide) q9_) ?_
    refine Go.by (fun t9_ q9_ => XS.iconst W0.here W0.hx rfl (hb hby dc19_16) q9_) ?_
    show Go _ _ _ _ _ _ _ _ _ (T0.setTop (mkF m 17 #[.val (.int cc)] [(.int (0 : Int32))]))
    exact W0.retN (z' := (0 : Int32)) (by decide) (by decide) hret (by simp) (hb hby dc19_17) rfl ⟨by rw [if_pos d1], rfl⟩
  · refine Go.by (fun t9_ q9_ => XS.icmpNo W0.here W0.hx rfl (hb hby dc19_3) rfl (flt d1).2.2.1 q9_) ?_
    refine Go.by (fun t9_ q9_ => XS.iloadN W0.here W0.hx rfl (hb hby dc19_6) rfl (XS.bipush W0.here W0.hx rfl (hb hby dc19_7) q9_)) ?_
    by_cases d2 : (57 : Int32) < cc
    · refine Go.by (fun t9_ q9_ => XS.icmpYes W0.here W0.hx rfl (pc0 := 9) (pc' := 16) rfl (hb hby dc19_9) rfl (tlt d2).2.2.1 (by decide) (by decide) q9_) ?_
      refine Go.by (fun t9_ q9_ => XS.iconst W0.here W0.hx rfl (hb hby dc19_16) q9_) ?_
      show Go _ _ _ _ _ _ _ _ _ (T0.setTop (mkF m 17 #[.val (.int cc)] [(.int (0 : Int32))]))
      exact W0.retN (z' := (0 : Int32)) (by decide) (by decide) hret (by simp) (hb hby dc19_17) rfl ⟨by rw [if_neg d1, if_pos d2], rfl⟩
    · refine Go.by (fun t9_ q9_ => XS.icmpNo W0.here W0.hx rfl (hb hby dc19_9) rfl (flt d2).2.2.1 q9_) ?_
      refine Go.by (fun t9_ q9_ => XS.iconst W0.here W0.hx rfl (hb hby dc19_12) (XS.goto W0.here W0.hx rfl (pc0 := 13) (pc' := 17) rfl (hb hby dc19_13) (by decide) (by decide) q9_)) ?_
      show Go _ _ _ _ _ _ _ _ _ (T0.setTop (mkF m 17 #[.val (.int cc)] [(.int (1 : Int32))]))
      exact W0.retN (z' := (1 : Int32)) (by decide) (by decide) hret (by simp) (hb hby dc19_17) rfl ⟨by rw [if_neg d1, if_neg d2], rfl⟩
theorem c_fine (l : Launch) (Z : State) (a0 : Array Value) (hw : HW Z a0) (hEL : EW Z a0 [("java/lang/String", 7)]) (h0 : Heap) (hE0 : Ext Z.heap h0) (cc ii ff tt : Int32)  :
    Con l Z [("java/lang/String", 7)] [] (⟨"com/example/kontraktbuch/kontraktbuch/NotationIsDigitsPinLaw", "fine", "(CIII)Z"⟩ : MethodName) method_4_code 4 (some .boolean) [] (⟨1, 0, 0, 12⟩ : Room) #[(.int cc), (.int ii), (.int ff), (.int tt)] h0 (fun v h' => v = (some (.int (if ii < ff then (1 : Int32) else if ii < tt then (if cc < (48 : Int32) then (0 : Int32) else if (57 : Int32) < cc then 0 else 1) else 1))) ∧ h' = h0) := by
  refine Con.mk (plainFor_of_name pn_4) hEL hE0 (fun x hx => by cases hx) ?_
  intro p e s m below meth c T0 hby hml hret hnm W0
  rw [(show entryFrame m #[(.int cc), (.int ii), (.int ff), (.int tt)] 4 = mkF m 0 #[.val (.int cc), .val (.int ii), .val (.int ff), .val (.int tt)] [] from by first | (simp [entryFrame, mkF, argsToLocals, Value.category]; done) | rfl)]
  refine Go.by (fun t9_ q9_ => XS.iloadN W0.here W0.hx rfl (hb hby dc20_0) rfl (XS.iloadN W0.here W0.hx rfl (hb hby dc20_1) rfl q9_)) ?_
  by_cases g1 : ii < ff
  · refine Go.by (fun t9_ q9_ => XS.icmpYes W0.here W0.hx rfl (pc0 := 2) (pc' := 17) rfl (hb hby dc20_2) rfl (tlt g1).1 (by decide) (by decide) q9_) ?_
    refine Go.by (fun t9_ q9_ => XS.iconst W0.here W0.hx rfl (hb hby dc20_17) (XS.goto W0.here W0.hx rfl (pc0 := 18) (pc' := 22) rfl (hb hby dc20_18) (by decide) (by decide) q9_)) ?_
    show Go _ _ _ _ _ _ _ _ _ (T0.setTop (mkF m 22 #[.val (.int cc), .val (.int ii), .val (.int ff), .val (.int tt)] [(.int (1 : Int32))]))
    exact W0.retN (z' := (1 : Int32)) (by decide) (by decide) hret (by simp) (hb hby dc20_22) rfl ⟨by rw [if_pos g1], rfl⟩
  · refine Go.by (fun t9_ q9_ => XS.icmpNo W0.here W0.hx rfl (hb hby dc20_2) rfl (flt g1).1 q9_) ?_
    refine Go.by (fun t9_ q9_ => XS.iloadN W0.here W0.hx rfl (hb hby dc20_5) rfl (XS.iloadN W0.here W0.hx rfl (hb hby dc20_6) rfl q9_)) ?_
    by_cases g2 : ii < tt
    · refine Go.by (fun t9_ q9_ => XS.icmpNo W0.here W0.hx rfl (hb hby dc20_7) rfl (tlt g2).2.1 q9_) ?_
      refine Go.by (fun t9_ q9_ => XS.iloadN W0.here W0.hx rfl (hb hby dc20_10) rfl q9_) ?_
      show Go _ _ _ _ _ _ _ _ _ (T0.setTop (mkF m 11 #[.val (.int cc), .val (.int ii), .val (.int ff), .val (.int tt)] [(.int cc)]))
      refine W0.callSp (y := (⟨"com/example/kontraktbuch/kontraktbuch/NotationIsDigitsPinLaw", "asciiDigit", "(C)Z"⟩ : MethodName)) (wd78 hw) (wd79 hw) (wd2 hw) (wd80 hw) (by decide) (c_dig l Z a0 hw hEL h0 W0.old cc) all0 (by decide) (by decide) (k' := 0) (n' := 0) rfl rfl (by decide) (by decide) (by rw [hml]; rfl) (argsL := [(.int cc)]) (rest := []) (lenOf pd_13 rfl) rfl rfl (Wt := 0) (Nat.le_of_eq rfl) (hb hby dc20_11) ?_
      intro T774 W775
      by_cases d1 : cc < (48 : Int32)
      · refine Go.by (fun t9_ q9_ => XS.ifYes W775.here W775.hx rfl (pc0 := 14) (pc' := 21) rfl (hb hby dc20_14) rfl ((if0 _ _).trans (teq (if_pos d1)).1) (by decide) (by decide) q9_) ?_
        refine Go.by (fun t9_ q9_ => XS.iconst W775.here W775.hx rfl (hb hby dc20_21) q9_) ?_
        show Go _ _ _ _ _ _ _ _ _ (T774.setTop (mkF m 22 #[.val (.int cc), .val (.int ii), .val (.int ff), .val (.int tt)] [(.int (0 : Int32))]))
        exact W775.retN (z' := (0 : Int32)) (by decide) (by decide) hret (by simp) (hb hby dc20_22) rfl ⟨by rw [if_neg g1, if_pos g2, if_pos d1], rfl⟩
      · by_cases d2 : (57 : Int32) < cc
        · refine Go.by (fun t9_ q9_ => XS.ifYes W775.here W775.hx rfl (pc0 := 14) (pc' := 21) rfl (hb hby dc20_14) rfl ((if0 _ _).trans (teq (by rw [if_neg d1, if_pos d2])).1) (by decide) (by decide) q9_) ?_
          refine Go.by (fun t9_ q9_ => XS.iconst W775.here W775.hx rfl (hb hby dc20_21) q9_) ?_
          show Go _ _ _ _ _ _ _ _ _ (T774.setTop (mkF m 22 #[.val (.int cc), .val (.int ii), .val (.int ff), .val (.int tt)] [(.int (0 : Int32))]))
          exact W775.retN (z' := (0 : Int32)) (by decide) (by decide) hret (by simp) (hb hby dc20_22) rfl ⟨by rw [if_neg g1, if_pos g2, if_neg d1, if_pos d2], rfl⟩
        · refine Go.by (fun t9_ q9_ => XS.ifNo W775.here W775.hx rfl (hb hby dc20_14) rfl ((if0 _ _).trans (feq (by rw [if_neg d1, if_neg d2]; decide)).1) q9_) ?_
          refine Go.by (fun t9_ q9_ => XS.iconst W775.here W775.hx rfl (hb hby dc20_17) (XS.goto W775.here W775.hx rfl (pc0 := 18) (pc' := 22) rfl (hb hby dc20_18) (by decide) (by decide) q9_)) ?_
          show Go _ _ _ _ _ _ _ _ _ (T774.setTop (mkF m 22 #[.val (.int cc), .val (.int ii), .val (.int ff), .val (.int tt)] [(.int (1 : Int32))]))
          exact W775.retN (z' := (1 : Int32)) (by decide) (by decide) hret (by simp) (hb hby dc20_22) rfl ⟨by rw [if_neg g1, if_pos g2, if_neg d1, if_neg d2], rfl⟩
    · refine Go.by (fun t9_ q9_ => XS.icmpYes W0.here W0.hx rfl (pc0 := 7) (pc' := 17) rfl (hb hby dc20_7) rfl (flt g2).2.1 (by decide) (by decide) q9_) ?_
      refine Go.by (fun t9_ q9_ => XS.iconst W0.here W0.hx rfl (hb hby dc20_17) (XS.goto W0.here W0.hx rfl (pc0 := 18) (pc' := 22) rfl (hb hby dc20_18) (by decide) (by decide) q9_)) ?_
      show Go _ _ _ _ _ _ _ _ _ (T0.setTop (mkF m 22 #[.val (.int cc), .val (.int ii), .val (.int ff), .val (.int tt)] [(.int (1 : Int32))]))
      exact W0.retN (z' := (1 : Int32)) (by decide) (by decide) hret (by simp) (hb hby dc20_22) rfl ⟨by rw [if_neg g1, if_neg g2], rfl⟩
theorem c_make0 (l : Launch) (Z : State) (a0 : Array Value) (hw : HW Z a0) (hEL : EW Z a0 [("java/lang/String", 7)]) (h0 : Heap) (hE0 : Ext Z.heap h0) (c0 c1 c2 c3 G1 : Int32) (PSH : PS3 Z) (SG1 : Sta Z Z.heap "java/lang/String" "COMPACT_STRINGS" "Z" (.int G1)) (hG : ¬ G1 = 0)  :
    Con l Z [("java/lang/String", 7)] [] (⟨"com/example/kontraktbuch/kontraktbuch/NotationIsDigitsPinLaw", "make", "(ICCCC)Ljava/lang/String;"⟩ : MethodName) method_5_code 5 (some (.object "java/lang/String")) [] (⟨6, 8, 40, 100⟩ : Room) #[(.int (0 : Int32)), (.int c0), (.int c1), (.int c2), (.int c3)] h0 (fun v h' => ∃ r, v = some (.ref r) ∧ Ext h0 h' ∧ Str Z h' r []) := by
  refine Con.mk (plainFor_of_name pn_4) hEL hE0 (fun x hx => by cases hx) ?_
  intro p e s m below meth c T0 hby hml hret hnm W0
  rw [(show entryFrame m #[(.int (0 : Int32)), (.int c0), (.int c1), (.int c2), (.int c3)] 5 = mkF m 0 #[.val (.int (0 : Int32)), .val (.int c0), .val (.int c1), .val (.int c2), .val (.int c3)] [] from by first | (simp [entryFrame, mkF, argsToLocals, Value.category]; done) | rfl)]
  refine Go.by (fun t9_ q9_ => XS.iloadN W0.here W0.hx rfl (hb hby dc21_0) rfl q9_) ?_
  refine Go.by (fun t9_ q9_ => XS.ifNo W0.here W0.hx rfl (hb hby dc21_1) rfl ((if0 _ _).trans (teq rfl).2) q9_) ?_
  show Go _ _ _ _ _ _ _ _ _ (T0.setTop (mkF m 4 #[.val (.int (0 : Int32)), .val (.int c0), .val (.int c1), .val (.int c2), .val (.int c3)] []))
  refine W0.new (wd8 hw) (wd9 hw) (wd10 hw) (hb hby dc21_4) (k' := 1) (n' := 4) rfl rfl (by decide) (by decide) ?_
  intro T776 h777 r W778 E779 g_r z_r A_r D_r
  have F_value_r : Fld Z h777 r "java/lang/String" "value" "[B" .null := D_r (Or.inr (wd24 hw)) (ty := (.array .byte)) (by decide)
  have F_coder_r : Fld Z h777 r "java/lang/String" "coder" "B" (.int (0 : Int32)) := D_r (Or.inr (wd25 hw)) (ty := .byte) (by decide)
  refine Go.by (fun t9_ q9_ => XS.dup W778.here W778.hx rfl (hb hby dc21_7) rfl rfl (XS.iconst W778.here W778.hx rfl (hb hby dc21_8) q9_)) ?_
  show Go _ _ _ _ _ _ _ _ _ (T776.setTop (mkF m 9 #[.val (.int (0 : Int32)), .val (.int c0), .val (.int c1), .val (.int c2), .val (.int c3)] [(.int (0 : Int32)), (.ref r), (.ref r)]))
  refine W778.newp (aty := .char) (wd11 hw) (hb hby dc21_9) (by decide) (cap := 0) (by decide) (by decide) (k' := 2) (n' := 4) rfl rfl (by decide) (by decide) (ad := "[C") rfl ?_
  intro T780 h781 ba k_ba W782 E783 g_ba z_ba A_ba V_ba
  have V1_ba : Arv Z h781 ba k_ba .char (0 : Int32) [] (.int (0 : Int32)) := V_ba.pad (pad_rep [] (.int (0 : Int32)) 0)
  show Go _ _ _ _ _ _ _ _ _ (T780.setTop (mkF m 11 #[.val (.int (0 : Int32)), .val (.int c0), .val (.int c1), .val (.int c2), .val (.int c3)] [(.ref ba), (.ref r), (.ref r)]))
  refine W782.callI (y := (⟨"java/lang/String", "<init>", "([C)V"⟩ : MethodName)) rfl (wd12 hw) (wd13 hw) (wd10 hw) (wd14 hw) (by decide) (a := r) (c_str1e l Z a0 hw hEL h781 W782.old r ba k_ba _ _ (A_r.ext E783) (F_value_r.ext E783) (F_coder_r.ext E783) z_r V1_ba) (allS (List.mem_of_getElem? (i := 1) rfl) all0) (by decide) (by decide) (k' := 6) (n' := 12) rfl rfl (by decide) (by decide) (by rw [hml]; rfl) (argsL := [(.ref ba)]) (rest := [(.ref r)]) (lenOf pd_14 rfl) rfl rfl (Wt := 1) (Nat.le_of_eq rfl) (hb hby dc21_11) ?_
  intro v_ T784 h786 W785 hq_
  obtain ⟨rfl, K1, S_r⟩ := hq_
  have X787 : Ext h0 h781 := (Ext.trans' E779 E783)
  have X788 : Ext h0 h786 := (Ext.keep' X787 K1 (allS (Nat.le_of_eq g_r) all0))
  show Go _ _ _ _ _ _ _ _ _ (T784.setTop (mkF m 14 #[.val (.int (0 : Int32)), .val (.int c0), .val (.int c1), .val (.int c2), .val (.int c3)] [(.ref r)]))
  exact W785.retA (by decide) (by decide) hret rfl rfl (hb hby dc21_14) ⟨r, rfl, X788, S_r⟩
theorem c_make1 (l : Launch) (Z : State) (a0 : Array Value) (hw : HW Z a0) (hEL : EW Z a0 [("java/lang/String", 7)]) (h0 : Heap) (hE0 : Ext Z.heap h0) (c0 c1 c2 c3 G1 : Int32) (PSH : PS3 Z) (SG1 : Sta Z Z.heap "java/lang/String" "COMPACT_STRINGS" "Z" (.int G1)) (hG : ¬ G1 = 0) (r0 : ¬ c0 < 0 ∧ ¬ (65535 : Int32) < c0) :
    Con l Z [("java/lang/String", 7)] [] (⟨"com/example/kontraktbuch/kontraktbuch/NotationIsDigitsPinLaw", "make", "(ICCCC)Ljava/lang/String;"⟩ : MethodName) method_5_code 5 (some (.object "java/lang/String")) [] (⟨6, 8, 40, 100⟩ : Room) #[(.int (1 : Int32)), (.int c0), (.int c1), (.int c2), (.int c3)] h0 (fun v h' => ∃ r, v = some (.ref r) ∧ Ext h0 h' ∧ Str Z h' r [c0]) := by
  refine Con.mk (plainFor_of_name pn_4) hEL hE0 (fun x hx => by cases hx) ?_
  intro p e s m below meth c T0 hby hml hret hnm W0
  rw [(show entryFrame m #[(.int (1 : Int32)), (.int c0), (.int c1), (.int c2), (.int c3)] 5 = mkF m 0 #[.val (.int (1 : Int32)), .val (.int c0), .val (.int c1), .val (.int c2), .val (.int c3)] [] from by first | (simp [entryFrame, mkF, argsToLocals, Value.category]; done) | rfl)]
  refine Go.by (fun t9_ q9_ => XS.iloadN W0.here W0.hx rfl (hb hby dc21_0) rfl q9_) ?_
  refine Go.by (fun t9_ q9_ => XS.ifYes W0.here W0.hx rfl (pc0 := 1) (pc' := 15) rfl (hb hby dc21_1) rfl ((if0 _ _).trans (feq (by decide)).2) (by decide) (by decide) q9_) ?_
  refine Go.by (fun t9_ q9_ => XS.iloadN W0.here W0.hx rfl (hb hby dc21_15) rfl (XS.iconst W0.here W0.hx rfl (hb hby dc21_16) q9_)) ?_
  refine Go.by (fun t9_ q9_ => XS.icmpNo W0.here W0.hx rfl (hb hby dc21_17) rfl (teq rfl).2 q9_) ?_
  show Go _ _ _ _ _ _ _ _ _ (T0.setTop (mkF m 20 #[.val (.int (1 : Int32)), .val (.int c0), .val (.int c1), .val (.int c2), .val (.int c3)] []))
  refine W0.new (wd8 hw) (wd9 hw) (wd10 hw) (hb hby dc21_20) (k' := 1) (n' := 4) rfl rfl (by decide) (by decide) ?_
  intro T789 h790 r W791 E792 g_r z_r A_r D_r
  have F_value_r : Fld Z h790 r "java/lang/String" "value" "[B" .null := D_r (Or.inr (wd24 hw)) (ty := (.array .byte)) (by decide)
  have F_coder_r : Fld Z h790 r "java/lang/String" "coder" "B" (.int (0 : Int32)) := D_r (Or.inr (wd25 hw)) (ty := .byte) (by decide)
  refine Go.by (fun t9_ q9_ => XS.dup W791.here W791.hx rfl (hb hby dc21_23) rfl rfl (XS.iconst W791.here W791.hx rfl (hb hby dc21_24) q9_)) ?_
  show Go _ _ _ _ _ _ _ _ _ (T789.setTop (mkF m 25 #[.val (.int (1 : Int32)), .val (.int c0), .val (.int c1), .val (.int c2), .val (.int c3)] [(.int (1 : Int32)), (.ref r), (.ref r)]))
  refine W791.newp (aty := .char) (wd11 hw) (hb hby dc21_25) (by decide) (cap := 1) (by decide) (by decide) (k' := 2) (n' := 5) rfl rfl (by decide) (by decide) (ad := "[C") rfl ?_
  intro T793 h794 ba k_ba W795 E796 g_ba z_ba A_ba V_ba
  have V1_ba : Arv Z h794 ba k_ba .char (1 : Int32) [(.int (0 : Int32))] (.int (0 : Int32)) := V_ba.pad (pad_rep [] (.int (0 : Int32)) 1)
  refine Go.by (fun t9_ q9_ => XS.dup W795.here W795.hx rfl (hb hby dc21_27) rfl rfl (XS.iconst W795.here W795.hx rfl (hb hby dc21_28) (XS.iloadN W795.here W795.hx rfl (hb hby dc21_29) rfl q9_))) ?_
  show Go _ _ _ _ _ _ _ _ _ (T793.setTop (mkF m 30 #[.val (.int (1 : Int32)), .val (.int c0), .val (.int c1), .val (.int c2), .val (.int c3)] [(.int c0), (.int (0 : Int32)), (.ref ba), (.ref ba), (.ref r), (.ref r)]))
  refine W795.cast_ V1_ba ⟨by decide, by decide⟩ (i := 0) rfl (by simp) (v' := c0) (nar_id r0) z_ba (List.mem_of_getElem? (i := 0) rfl) (hb hby dc21_30) ?_
  intro T797 h798 W799 Wr800 V801_ba'
  have V801_ba : Arv Z h798 ba k_ba .char (1 : Int32) [(.int c0)] (.int (0 : Int32)) := V801_ba'
  by_cases hbig : (255 : Int32) < c0
  · have X802 : Ext h790 h798 := (Ext.wr' E796 Wr800 (Nat.le_of_eq g_ba))
    show Go _ _ _ _ _ _ _ _ _ (T797.setTop (mkF m 31 #[.val (.int (1 : Int32)), .val (.int c0), .val (.int c1), .val (.int c2), .val (.int c3)] [(.ref ba), (.ref r), (.ref r)]))
    refine W799.callI (y := (⟨"java/lang/String", "<init>", "([C)V"⟩ : MethodName)) rfl (wd12 hw) (wd13 hw) (wd10 hw) (wd14 hw) (by decide) (a := r) (c_s16_1 l Z a0 hw hEL h798 W799.old r ba k_ba c0 G1 (A_r.ext X802) (F_value_r.ext X802) (F_coder_r.ext X802) z_r PSH SG1 hG V801_ba r0 hbig) (allS (List.mem_of_getElem? (i := 1) rfl) all0) (by decide) (by decide) (k' := 4) (n' := 8) rfl rfl (by decide) (by decide) (by rw [hml]; rfl) (argsL := [(.ref ba)]) (rest := [(.ref r)]) (lenOf pd_14 rfl) rfl rfl (Wt := 1) (Nat.le_of_eq rfl) (hb hby dc21_31) ?_
    intro v_ T803 h805 W804 hq_
    obtain ⟨rfl, K1, ta, k_ta, E1, FV1, FC1, A1⟩ := hq_
    have S_r : Str Z h805 r [c0] := ⟨ta, k_ta, 1, _, _, E1, FV1, FC1, A1, Or.inr ⟨rfl, rfl, rfl, by simpa using hbig⟩, by simp only [List.mem_cons, List.not_mem_nil, or_false, forall_eq_or_imp, forall_eq]; exact r0⟩
    have X806 : Ext h0 h794 := (Ext.trans' E792 E796)
    have X807 : Ext h0 h798 := (Ext.wr' X806 Wr800 (Nat.le_trans E792.1 (Nat.le_of_eq g_ba)))
    have X808 : Ext h0 h805 := (Ext.keep' X807 K1 (allS (Nat.le_of_eq g_r) all0))
    show Go _ _ _ _ _ _ _ _ _ (T803.setTop (mkF m 34 #[.val (.int (1 : Int32)), .val (.int c0), .val (.int c1), .val (.int c2), .val (.int c3)] [(.ref r)]))
    exact W804.retA (by decide) (by decide) hret rfl rfl (hb hby dc21_34) ⟨r, rfl, X808, S_r⟩
  · have hlat : ∀ c ∈ [c0], ¬ (255 : Int32) < c := by intro c hc h5; simp only [List.mem_cons, List.not_mem_nil, or_false] at hc; exact hbig (by subst hc; exact h5)
    have X813 : Ext h790 h798 := (Ext.wr' E796 Wr800 (Nat.le_of_eq g_ba))
    show Go _ _ _ _ _ _ _ _ _ (T797.setTop (mkF m 31 #[.val (.int (1 : Int32)), .val (.int c0), .val (.int c1), .val (.int c2), .val (.int c3)] [(.ref ba), (.ref r), (.ref r)]))
    refine W799.strV (cs := [c0]) (k_words hw) (wd9 hw) (wd12 hw) (wd13 hw) (A_r.ext X813) (F_value_r.ext X813) (F_coder_r.ext X813) V801_ba (SG1.ext W799.old) hG (q := 1) rfl rfl (by decide) (by decide) (by intro c hc; refine ⟨?_, hlat c hc⟩; simp only [List.mem_cons, List.not_mem_nil, or_false] at hc; subst hc; exact r0.1) z_r (List.mem_of_getElem? (i := 1) rfl) (by decide) (Wt := 1) (by decide) (k' := 3) (n' := 6) rfl rfl (by decide) (by decide) (by rw [hml]; rfl) (Nat.le_of_eq rfl) (hb hby dc21_31) ?_
    intro T809 h810 W811 K812 S_r
    have X814 : Ext h0 h794 := (Ext.trans' E792 E796)
    have X815 : Ext h0 h798 := (Ext.wr' X814 Wr800 (Nat.le_trans E792.1 (Nat.le_of_eq g_ba)))
    have X816 : Ext h0 h810 := (Ext.keep' X815 K812 (allS (Nat.le_of_eq g_r) all0))
    show Go _ _ _ _ _ _ _ _ _ (T809.setTop (mkF m 34 #[.val (.int (1 : Int32)), .val (.int c0), .val (.int c1), .val (.int c2), .val (.int c3)] [(.ref r)]))
    exact W811.retA (by decide) (by decide) hret rfl rfl (hb hby dc21_34) ⟨r, rfl, X816, S_r⟩
theorem c_make2 (l : Launch) (Z : State) (a0 : Array Value) (hw : HW Z a0) (hEL : EW Z a0 [("java/lang/String", 7)]) (h0 : Heap) (hE0 : Ext Z.heap h0) (c0 c1 c2 c3 G1 : Int32) (PSH : PS3 Z) (SG1 : Sta Z Z.heap "java/lang/String" "COMPACT_STRINGS" "Z" (.int G1)) (hG : ¬ G1 = 0) (r0 : ¬ c0 < 0 ∧ ¬ (65535 : Int32) < c0) (r1 : ¬ c1 < 0 ∧ ¬ (65535 : Int32) < c1) :
    Con l Z [("java/lang/String", 7)] [] (⟨"com/example/kontraktbuch/kontraktbuch/NotationIsDigitsPinLaw", "make", "(ICCCC)Ljava/lang/String;"⟩ : MethodName) method_5_code 5 (some (.object "java/lang/String")) [] (⟨6, 8, 40, 100⟩ : Room) #[(.int (2 : Int32)), (.int c0), (.int c1), (.int c2), (.int c3)] h0 (fun v h' => ∃ r, v = some (.ref r) ∧ Ext h0 h' ∧ Str Z h' r [c0, c1]) := by
  refine Con.mk (plainFor_of_name pn_4) hEL hE0 (fun x hx => by cases hx) ?_
  intro p e s m below meth c T0 hby hml hret hnm W0
  rw [(show entryFrame m #[(.int (2 : Int32)), (.int c0), (.int c1), (.int c2), (.int c3)] 5 = mkF m 0 #[.val (.int (2 : Int32)), .val (.int c0), .val (.int c1), .val (.int c2), .val (.int c3)] [] from by first | (simp [entryFrame, mkF, argsToLocals, Value.category]; done) | rfl)]
  refine Go.by (fun t9_ q9_ => XS.iloadN W0.here W0.hx rfl (hb hby dc21_0) rfl q9_) ?_
  refine Go.by (fun t9_ q9_ => XS.ifYes W0.here W0.hx rfl (pc0 := 1) (pc' := 15) rfl (hb hby dc21_1) rfl ((if0 _ _).trans (feq (by decide)).2) (by decide) (by decide) q9_) ?_
  refine Go.by (fun t9_ q9_ => XS.iloadN W0.here W0.hx rfl (hb hby dc21_15) rfl (XS.iconst W0.here W0.hx rfl (hb hby dc21_16) q9_)) ?_
  refine Go.by (fun t9_ q9_ => XS.icmpYes W0.here W0.hx rfl (pc0 := 17) (pc' := 35) rfl (hb hby dc21_17) rfl (feq (by decide)).2 (by decide) (by decide) q9_) ?_
  refine Go.by (fun t9_ q9_ => XS.iloadN W0.here W0.hx rfl (hb hby dc21_35) rfl (XS.iconst W0.here W0.hx rfl (hb hby dc21_36) q9_)) ?_
  refine Go.by (fun t9_ q9_ => XS.icmpNo W0.here W0.hx rfl (hb hby dc21_37) rfl (teq rfl).2 q9_) ?_
  show Go _ _ _ _ _ _ _ _ _ (T0.setTop (mkF m 40 #[.val (.int (2 : Int32)), .val (.int c0), .val (.int c1), .val (.int c2), .val (.int c3)] []))
  refine W0.new (wd8 hw) (wd9 hw) (wd10 hw) (hb hby dc21_40) (k' := 1) (n' := 4) rfl rfl (by decide) (by decide) ?_
  intro T817 h818 r W819 E820 g_r z_r A_r D_r
  have F_value_r : Fld Z h818 r "java/lang/String" "value" "[B" .null := D_r (Or.inr (wd24 hw)) (ty := (.array .byte)) (by decide)
  have F_coder_r : Fld Z h818 r "java/lang/String" "coder" "B" (.int (0 : Int32)) := D_r (Or.inr (wd25 hw)) (ty := .byte) (by decide)
  refine Go.by (fun t9_ q9_ => XS.dup W819.here W819.hx rfl (hb hby dc21_43) rfl rfl (XS.iconst W819.here W819.hx rfl (hb hby dc21_44) q9_)) ?_
  show Go _ _ _ _ _ _ _ _ _ (T817.setTop (mkF m 45 #[.val (.int (2 : Int32)), .val (.int c0), .val (.int c1), .val (.int c2), .val (.int c3)] [(.int (2 : Int32)), (.ref r), (.ref r)]))
  refine W819.newp (aty := .char) (wd11 hw) (hb hby dc21_45) (by decide) (cap := 2) (by decide) (by decide) (k' := 2) (n' := 6) rfl rfl (by decide) (by decide) (ad := "[C") rfl ?_
  intro T821 h822 ba k_ba W823 E824 g_ba z_ba A_ba V_ba
  have V1_ba : Arv Z h822 ba k_ba .char (2 : Int32) [(.int (0 : Int32)), (.int (0 : Int32))] (.int (0 : Int32)) := V_ba.pad (pad_rep [] (.int (0 : Int32)) 2)
  refine Go.by (fun t9_ q9_ => XS.dup W823.here W823.hx rfl (hb hby dc21_47) rfl rfl (XS.iconst W823.here W823.hx rfl (hb hby dc21_48) (XS.iloadN W823.here W823.hx rfl (hb hby dc21_49) rfl q9_))) ?_
  show Go _ _ _ _ _ _ _ _ _ (T821.setTop (mkF m 50 #[.val (.int (2 : Int32)), .val (.int c0), .val (.int c1), .val (.int c2), .val (.int c3)] [(.int c0), (.int (0 : Int32)), (.ref ba), (.ref ba), (.ref r), (.ref r)]))
  refine W823.cast_ V1_ba ⟨by decide, by decide⟩ (i := 0) rfl (by simp) (v' := c0) (nar_id r0) z_ba (List.mem_of_getElem? (i := 0) rfl) (hb hby dc21_50) ?_
  intro T825 h826 W827 Wr828 V829_ba'
  have V829_ba : Arv Z h826 ba k_ba .char (2 : Int32) [(.int c0), (.int (0 : Int32))] (.int (0 : Int32)) := V829_ba'
  refine Go.by (fun t9_ q9_ => XS.dup W827.here W827.hx rfl (hb hby dc21_51) rfl rfl (XS.iconst W827.here W827.hx rfl (hb hby dc21_52) (XS.iloadN W827.here W827.hx rfl (hb hby dc21_53) rfl q9_))) ?_
  show Go _ _ _ _ _ _ _ _ _ (T825.setTop (mkF m 54 #[.val (.int (2 : Int32)), .val (.int c0), .val (.int c1), .val (.int c2), .val (.int c3)] [(.int c1), (.int (1 : Int32)), (.ref ba), (.ref ba), (.ref r), (.ref r)]))
  refine W827.cast_ V829_ba ⟨by decide, by decide⟩ (i := 1) rfl (by simp) (v' := c1) (nar_id r1) z_ba (List.mem_of_getElem? (i := 0) rfl) (hb hby dc21_54) ?_
  intro T830 h831 W832 Wr833 V834_ba'
  have V834_ba : Arv Z h831 ba k_ba .char (2 : Int32) [(.int c0), (.int c1)] (.int (0 : Int32)) := V834_ba'
  by_cases hbig : (255 : Int32) < c0 ∨ (255 : Int32) < c1
  · have X835 : Ext h818 h826 := (Ext.wr' E824 Wr828 (Nat.le_of_eq g_ba))
    have X836 : Ext h818 h831 := (Ext.wr' X835 Wr833 (Nat.le_of_eq g_ba))
    show Go _ _ _ _ _ _ _ _ _ (T830.setTop (mkF m 55 #[.val (.int (2 : Int32)), .val (.int c0), .val (.int c1), .val (.int c2), .val (.int c3)] [(.ref ba), (.ref r), (.ref r)]))
    refine W832.callI (y := (⟨"java/lang/String", "<init>", "([C)V"⟩ : MethodName)) rfl (wd12 hw) (wd13 hw) (wd10 hw) (wd14 hw) (by decide) (a := r) (c_s16_2 l Z a0 hw hEL h831 W832.old r ba k_ba c0 c1 G1 (A_r.ext X836) (F_value_r.ext X836) (F_coder_r.ext X836) z_r PSH SG1 hG V834_ba r0 r1 hbig) (allS (List.mem_of_getElem? (i := 1) rfl) all0) (by decide) (by decide) (k' := 4) (n' := 12) rfl rfl (by decide) (by decide) (by rw [hml]; rfl) (argsL := [(.ref ba)]) (rest := [(.ref r)]) (lenOf pd_14 rfl) rfl rfl (Wt := 1) (Nat.le_of_eq rfl) (hb hby dc21_55) ?_
    intro v_ T837 h839 W838 hq_
    obtain ⟨rfl, K1, ta, k_ta, E1, FV1, FC1, A1⟩ := hq_
    have S_r : Str Z h839 r [c0, c1] := ⟨ta, k_ta, 1, _, _, E1, FV1, FC1, A1, Or.inr ⟨rfl, rfl, rfl, by simpa using hbig⟩, by simp only [List.mem_cons, List.not_mem_nil, or_false, forall_eq_or_imp, forall_eq]; exact ⟨r0, r1⟩⟩
    have X840 : Ext h0 h822 := (Ext.trans' E820 E824)
    have X841 : Ext h0 h826 := (Ext.wr' X840 Wr828 (Nat.le_trans E820.1 (Nat.le_of_eq g_ba)))
    have X842 : Ext h0 h831 := (Ext.wr' X841 Wr833 (Nat.le_trans E820.1 (Nat.le_of_eq g_ba)))
    have X843 : Ext h0 h839 := (Ext.keep' X842 K1 (allS (Nat.le_of_eq g_r) all0))
    show Go _ _ _ _ _ _ _ _ _ (T837.setTop (mkF m 58 #[.val (.int (2 : Int32)), .val (.int c0), .val (.int c1), .val (.int c2), .val (.int c3)] [(.ref r)]))
    exact W838.retA (by decide) (by decide) hret rfl rfl (hb hby dc21_58) ⟨r, rfl, X843, S_r⟩
  · have hlat : ∀ c ∈ [c0, c1], ¬ (255 : Int32) < c := by intro c hc h5; simp only [List.mem_cons, List.not_mem_nil, or_false] at hc; exact hbig (by rcases hc with rfl | rfl <;> simp [h5])
    have X848 : Ext h818 h826 := (Ext.wr' E824 Wr828 (Nat.le_of_eq g_ba))
    have X849 : Ext h818 h831 := (Ext.wr' X848 Wr833 (Nat.le_of_eq g_ba))
    show Go _ _ _ _ _ _ _ _ _ (T830.setTop (mkF m 55 #[.val (.int (2 : Int32)), .val (.int c0), .val (.int c1), .val (.int c2), .val (.int c3)] [(.ref ba), (.ref r), (.ref r)]))
    refine W832.strV (cs := [c0, c1]) (k_words hw) (wd9 hw) (wd12 hw) (wd13 hw) (A_r.ext X849) (F_value_r.ext X849) (F_coder_r.ext X849) V834_ba (SG1.ext W832.old) hG (q := 2) rfl rfl (by decide) (by decide) (by intro c hc; refine ⟨?_, hlat c hc⟩; simp only [List.mem_cons, List.not_mem_nil, or_false] at hc; rcases hc with rfl | rfl; exact r0.1; exact r1.1) z_r (List.mem_of_getElem? (i := 1) rfl) (by decide) (Wt := 1) (by decide) (k' := 3) (n' := 8) rfl rfl (by decide) (by decide) (by rw [hml]; rfl) (Nat.le_of_eq rfl) (hb hby dc21_55) ?_
    intro T844 h845 W846 K847 S_r
    have X850 : Ext h0 h822 := (Ext.trans' E820 E824)
    have X851 : Ext h0 h826 := (Ext.wr' X850 Wr828 (Nat.le_trans E820.1 (Nat.le_of_eq g_ba)))
    have X852 : Ext h0 h831 := (Ext.wr' X851 Wr833 (Nat.le_trans E820.1 (Nat.le_of_eq g_ba)))
    have X853 : Ext h0 h845 := (Ext.keep' X852 K847 (allS (Nat.le_of_eq g_r) all0))
    show Go _ _ _ _ _ _ _ _ _ (T844.setTop (mkF m 58 #[.val (.int (2 : Int32)), .val (.int c0), .val (.int c1), .val (.int c2), .val (.int c3)] [(.ref r)]))
    exact W846.retA (by decide) (by decide) hret rfl rfl (hb hby dc21_58) ⟨r, rfl, X853, S_r⟩
theorem c_make3 (l : Launch) (Z : State) (a0 : Array Value) (hw : HW Z a0) (hEL : EW Z a0 [("java/lang/String", 7)]) (h0 : Heap) (hE0 : Ext Z.heap h0) (c0 c1 c2 c3 G1 : Int32) (PSH : PS3 Z) (SG1 : Sta Z Z.heap "java/lang/String" "COMPACT_STRINGS" "Z" (.int G1)) (hG : ¬ G1 = 0) (r0 : ¬ c0 < 0 ∧ ¬ (65535 : Int32) < c0) (r1 : ¬ c1 < 0 ∧ ¬ (65535 : Int32) < c1) (r2 : ¬ c2 < 0 ∧ ¬ (65535 : Int32) < c2) :
    Con l Z [("java/lang/String", 7)] [] (⟨"com/example/kontraktbuch/kontraktbuch/NotationIsDigitsPinLaw", "make", "(ICCCC)Ljava/lang/String;"⟩ : MethodName) method_5_code 5 (some (.object "java/lang/String")) [] (⟨6, 8, 40, 100⟩ : Room) #[(.int (3 : Int32)), (.int c0), (.int c1), (.int c2), (.int c3)] h0 (fun v h' => ∃ r, v = some (.ref r) ∧ Ext h0 h' ∧ Str Z h' r [c0, c1, c2]) := by
  refine Con.mk (plainFor_of_name pn_4) hEL hE0 (fun x hx => by cases hx) ?_
  intro p e s m below meth c T0 hby hml hret hnm W0
  rw [(show entryFrame m #[(.int (3 : Int32)), (.int c0), (.int c1), (.int c2), (.int c3)] 5 = mkF m 0 #[.val (.int (3 : Int32)), .val (.int c0), .val (.int c1), .val (.int c2), .val (.int c3)] [] from by first | (simp [entryFrame, mkF, argsToLocals, Value.category]; done) | rfl)]
  refine Go.by (fun t9_ q9_ => XS.iloadN W0.here W0.hx rfl (hb hby dc21_0) rfl q9_) ?_
  refine Go.by (fun t9_ q9_ => XS.ifYes W0.here W0.hx rfl (pc0 := 1) (pc' := 15) rfl (hb hby dc21_1) rfl ((if0 _ _).trans (feq (by decide)).2) (by decide) (by decide) q9_) ?_
  refine Go.by (fun t9_ q9_ => XS.iloadN W0.here W0.hx rfl (hb hby dc21_15) rfl (XS.iconst W0.here W0.hx rfl (hb hby dc21_16) q9_)) ?_
  refine Go.by (fun t9_ q9_ => XS.icmpYes W0.here W0.hx rfl (pc0 := 17) (pc' := 35) rfl (hb hby dc21_17) rfl (feq (by decide)).2 (by decide) (by decide) q9_) ?_
  refine Go.by (fun t9_ q9_ => XS.iloadN W0.here W0.hx rfl (hb hby dc21_35) rfl (XS.iconst W0.here W0.hx rfl (hb hby dc21_36) q9_)) ?_
  refine Go.by (fun t9_ q9_ => XS.icmpYes W0.here W0.hx rfl (pc0 := 37) (pc' := 59) rfl (hb hby dc21_37) rfl (feq (by decide)).2 (by decide) (by decide) q9_) ?_
  refine Go.by (fun t9_ q9_ => XS.iloadN W0.here W0.hx rfl (hb hby dc21_59) rfl (XS.iconst W0.here W0.hx rfl (hb hby dc21_60) q9_)) ?_
  refine Go.by (fun t9_ q9_ => XS.icmpNo W0.here W0.hx rfl (hb hby dc21_61) rfl (teq rfl).2 q9_) ?_
  show Go _ _ _ _ _ _ _ _ _ (T0.setTop (mkF m 64 #[.val (.int (3 : Int32)), .val (.int c0), .val (.int c1), .val (.int c2), .val (.int c3)] []))
  refine W0.new (wd8 hw) (wd9 hw) (wd10 hw) (hb hby dc21_64) (k' := 1) (n' := 4) rfl rfl (by decide) (by decide) ?_
  intro T854 h855 r W856 E857 g_r z_r A_r D_r
  have F_value_r : Fld Z h855 r "java/lang/String" "value" "[B" .null := D_r (Or.inr (wd24 hw)) (ty := (.array .byte)) (by decide)
  have F_coder_r : Fld Z h855 r "java/lang/String" "coder" "B" (.int (0 : Int32)) := D_r (Or.inr (wd25 hw)) (ty := .byte) (by decide)
  refine Go.by (fun t9_ q9_ => XS.dup W856.here W856.hx rfl (hb hby dc21_67) rfl rfl (XS.iconst W856.here W856.hx rfl (hb hby dc21_68) q9_)) ?_
  show Go _ _ _ _ _ _ _ _ _ (T854.setTop (mkF m 69 #[.val (.int (3 : Int32)), .val (.int c0), .val (.int c1), .val (.int c2), .val (.int c3)] [(.int (3 : Int32)), (.ref r), (.ref r)]))
  refine W856.newp (aty := .char) (wd11 hw) (hb hby dc21_69) (by decide) (cap := 3) (by decide) (by decide) (k' := 2) (n' := 7) rfl rfl (by decide) (by decide) (ad := "[C") rfl ?_
  intro T858 h859 ba k_ba W860 E861 g_ba z_ba A_ba V_ba
  have V1_ba : Arv Z h859 ba k_ba .char (3 : Int32) [(.int (0 : Int32)), (.int (0 : Int32)), (.int (0 : Int32))] (.int (0 : Int32)) := V_ba.pad (pad_rep [] (.int (0 : Int32)) 3)
  refine Go.by (fun t9_ q9_ => XS.dup W860.here W860.hx rfl (hb hby dc21_71) rfl rfl (XS.iconst W860.here W860.hx rfl (hb hby dc21_72) (XS.iloadN W860.here W860.hx rfl (hb hby dc21_73) rfl q9_))) ?_
  show Go _ _ _ _ _ _ _ _ _ (T858.setTop (mkF m 74 #[.val (.int (3 : Int32)), .val (.int c0), .val (.int c1), .val (.int c2), .val (.int c3)] [(.int c0), (.int (0 : Int32)), (.ref ba), (.ref ba), (.ref r), (.ref r)]))
  refine W860.cast_ V1_ba ⟨by decide, by decide⟩ (i := 0) rfl (by simp) (v' := c0) (nar_id r0) z_ba (List.mem_of_getElem? (i := 0) rfl) (hb hby dc21_74) ?_
  intro T862 h863 W864 Wr865 V866_ba'
  have V866_ba : Arv Z h863 ba k_ba .char (3 : Int32) [(.int c0), (.int (0 : Int32)), (.int (0 : Int32))] (.int (0 : Int32)) := V866_ba'
  refine Go.by (fun t9_ q9_ => XS.dup W864.here W864.hx rfl (hb hby dc21_75) rfl rfl (XS.iconst W864.here W864.hx rfl (hb hby dc21_76) (XS.iloadN W864.here W864.hx rfl (hb hby dc21_77) rfl q9_))) ?_
  show Go _ _ _ _ _ _ _ _ _ (T862.setTop (mkF m 78 #[.val (.int (3 : Int32)), .val (.int c0), .val (.int c1), .val (.int c2), .val (.int c3)] [(.int c1), (.int (1 : Int32)), (.ref ba), (.ref ba), (.ref r), (.ref r)]))
  refine W864.cast_ V866_ba ⟨by decide, by decide⟩ (i := 1) rfl (by simp) (v' := c1) (nar_id r1) z_ba (List.mem_of_getElem? (i := 0) rfl) (hb hby dc21_78) ?_
  intro T867 h868 W869 Wr870 V871_ba'
  have V871_ba : Arv Z h868 ba k_ba .char (3 : Int32) [(.int c0), (.int c1), (.int (0 : Int32))] (.int (0 : Int32)) := V871_ba'
  refine Go.by (fun t9_ q9_ => XS.dup W869.here W869.hx rfl (hb hby dc21_79) rfl rfl (XS.iconst W869.here W869.hx rfl (hb hby dc21_80) (XS.iloadN W869.here W869.hx rfl (hb hby dc21_81) rfl q9_))) ?_
  show Go _ _ _ _ _ _ _ _ _ (T867.setTop (mkF m 82 #[.val (.int (3 : Int32)), .val (.int c0), .val (.int c1), .val (.int c2), .val (.int c3)] [(.int c2), (.int (2 : Int32)), (.ref ba), (.ref ba), (.ref r), (.ref r)]))
  refine W869.cast_ V871_ba ⟨by decide, by decide⟩ (i := 2) rfl (by simp) (v' := c2) (nar_id r2) z_ba (List.mem_of_getElem? (i := 0) rfl) (hb hby dc21_82) ?_
  intro T872 h873 W874 Wr875 V876_ba'
  have V876_ba : Arv Z h873 ba k_ba .char (3 : Int32) [(.int c0), (.int c1), (.int c2)] (.int (0 : Int32)) := V876_ba'
  by_cases hbig : (255 : Int32) < c0 ∨ (255 : Int32) < c1 ∨ (255 : Int32) < c2
  · have X877 : Ext h855 h863 := (Ext.wr' E861 Wr865 (Nat.le_of_eq g_ba))
    have X878 : Ext h855 h868 := (Ext.wr' X877 Wr870 (Nat.le_of_eq g_ba))
    have X879 : Ext h855 h873 := (Ext.wr' X878 Wr875 (Nat.le_of_eq g_ba))
    show Go _ _ _ _ _ _ _ _ _ (T872.setTop (mkF m 83 #[.val (.int (3 : Int32)), .val (.int c0), .val (.int c1), .val (.int c2), .val (.int c3)] [(.ref ba), (.ref r), (.ref r)]))
    refine W874.callI (y := (⟨"java/lang/String", "<init>", "([C)V"⟩ : MethodName)) rfl (wd12 hw) (wd13 hw) (wd10 hw) (wd14 hw) (by decide) (a := r) (c_s16_3 l Z a0 hw hEL h873 W874.old r ba k_ba c0 c1 c2 G1 (A_r.ext X879) (F_value_r.ext X879) (F_coder_r.ext X879) z_r PSH SG1 hG V876_ba r0 r1 r2 hbig) (allS (List.mem_of_getElem? (i := 1) rfl) all0) (by decide) (by decide) (k' := 4) (n' := 16) rfl rfl (by decide) (by decide) (by rw [hml]; rfl) (argsL := [(.ref ba)]) (rest := [(.ref r)]) (lenOf pd_14 rfl) rfl rfl (Wt := 1) (Nat.le_of_eq rfl) (hb hby dc21_83) ?_
    intro v_ T880 h882 W881 hq_
    obtain ⟨rfl, K1, ta, k_ta, E1, FV1, FC1, A1⟩ := hq_
    have S_r : Str Z h882 r [c0, c1, c2] := ⟨ta, k_ta, 1, _, _, E1, FV1, FC1, A1, Or.inr ⟨rfl, rfl, rfl, by simpa using hbig⟩, by simp only [List.mem_cons, List.not_mem_nil, or_false, forall_eq_or_imp, forall_eq]; exact ⟨r0, r1, r2⟩⟩
    have X883 : Ext h0 h859 := (Ext.trans' E857 E861)
    have X884 : Ext h0 h863 := (Ext.wr' X883 Wr865 (Nat.le_trans E857.1 (Nat.le_of_eq g_ba)))
    have X885 : Ext h0 h868 := (Ext.wr' X884 Wr870 (Nat.le_trans E857.1 (Nat.le_of_eq g_ba)))
    have X886 : Ext h0 h873 := (Ext.wr' X885 Wr875 (Nat.le_trans E857.1 (Nat.le_of_eq g_ba)))
    have X887 : Ext h0 h882 := (Ext.keep' X886 K1 (allS (Nat.le_of_eq g_r) all0))
    show Go _ _ _ _ _ _ _ _ _ (T880.setTop (mkF m 86 #[.val (.int (3 : Int32)), .val (.int c0), .val (.int c1), .val (.int c2), .val (.int c3)] [(.ref r)]))
    exact W881.retA (by decide) (by decide) hret rfl rfl (hb hby dc21_86) ⟨r, rfl, X887, S_r⟩
  · have hlat : ∀ c ∈ [c0, c1, c2], ¬ (255 : Int32) < c := by intro c hc h5; simp only [List.mem_cons, List.not_mem_nil, or_false] at hc; exact hbig (by rcases hc with rfl | rfl | rfl <;> simp [h5])
    have X892 : Ext h855 h863 := (Ext.wr' E861 Wr865 (Nat.le_of_eq g_ba))
    have X893 : Ext h855 h868 := (Ext.wr' X892 Wr870 (Nat.le_of_eq g_ba))
    have X894 : Ext h855 h873 := (Ext.wr' X893 Wr875 (Nat.le_of_eq g_ba))
    show Go _ _ _ _ _ _ _ _ _ (T872.setTop (mkF m 83 #[.val (.int (3 : Int32)), .val (.int c0), .val (.int c1), .val (.int c2), .val (.int c3)] [(.ref ba), (.ref r), (.ref r)]))
    refine W874.strV (cs := [c0, c1, c2]) (k_words hw) (wd9 hw) (wd12 hw) (wd13 hw) (A_r.ext X894) (F_value_r.ext X894) (F_coder_r.ext X894) V876_ba (SG1.ext W874.old) hG (q := 3) rfl rfl (by decide) (by decide) (by intro c hc; refine ⟨?_, hlat c hc⟩; simp only [List.mem_cons, List.not_mem_nil, or_false] at hc; rcases hc with rfl | rfl | rfl; exact r0.1; exact r1.1; exact r2.1) z_r (List.mem_of_getElem? (i := 1) rfl) (by decide) (Wt := 1) (by decide) (k' := 3) (n' := 10) rfl rfl (by decide) (by decide) (by rw [hml]; rfl) (Nat.le_of_eq rfl) (hb hby dc21_83) ?_
    intro T888 h889 W890 K891 S_r
    have X895 : Ext h0 h859 := (Ext.trans' E857 E861)
    have X896 : Ext h0 h863 := (Ext.wr' X895 Wr865 (Nat.le_trans E857.1 (Nat.le_of_eq g_ba)))
    have X897 : Ext h0 h868 := (Ext.wr' X896 Wr870 (Nat.le_trans E857.1 (Nat.le_of_eq g_ba)))
    have X898 : Ext h0 h873 := (Ext.wr' X897 Wr875 (Nat.le_trans E857.1 (Nat.le_of_eq g_ba)))
    have X899 : Ext h0 h889 := (Ext.keep' X898 K891 (allS (Nat.le_of_eq g_r) all0))
    show Go _ _ _ _ _ _ _ _ _ (T888.setTop (mkF m 86 #[.val (.int (3 : Int32)), .val (.int c0), .val (.int c1), .val (.int c2), .val (.int c3)] [(.ref r)]))
    exact W890.retA (by decide) (by decide) hret rfl rfl (hb hby dc21_86) ⟨r, rfl, X899, S_r⟩
theorem c_make4 (l : Launch) (Z : State) (a0 : Array Value) (hw : HW Z a0) (hEL : EW Z a0 [("java/lang/String", 7)]) (h0 : Heap) (hE0 : Ext Z.heap h0) (c0 c1 c2 c3 G1 : Int32) (PSH : PS3 Z) (SG1 : Sta Z Z.heap "java/lang/String" "COMPACT_STRINGS" "Z" (.int G1)) (hG : ¬ G1 = 0) (r0 : ¬ c0 < 0 ∧ ¬ (65535 : Int32) < c0) (r1 : ¬ c1 < 0 ∧ ¬ (65535 : Int32) < c1) (r2 : ¬ c2 < 0 ∧ ¬ (65535 : Int32) < c2) (r3 : ¬ c3 < 0 ∧ ¬ (65535 : Int32) < c3) :
    Con l Z [("java/lang/String", 7)] [] (⟨"com/example/kontraktbuch/kontraktbuch/NotationIsDigitsPinLaw", "make", "(ICCCC)Ljava/lang/String;"⟩ : MethodName) method_5_code 5 (some (.object "java/lang/String")) [] (⟨6, 8, 40, 100⟩ : Room) #[(.int (4 : Int32)), (.int c0), (.int c1), (.int c2), (.int c3)] h0 (fun v h' => ∃ r, v = some (.ref r) ∧ Ext h0 h' ∧ Str Z h' r [c0, c1, c2, c3]) := by
  refine Con.mk (plainFor_of_name pn_4) hEL hE0 (fun x hx => by cases hx) ?_
  intro p e s m below meth c T0 hby hml hret hnm W0
  rw [(show entryFrame m #[(.int (4 : Int32)), (.int c0), (.int c1), (.int c2), (.int c3)] 5 = mkF m 0 #[.val (.int (4 : Int32)), .val (.int c0), .val (.int c1), .val (.int c2), .val (.int c3)] [] from by first | (simp [entryFrame, mkF, argsToLocals, Value.category]; done) | rfl)]
  refine Go.by (fun t9_ q9_ => XS.iloadN W0.here W0.hx rfl (hb hby dc21_0) rfl q9_) ?_
  refine Go.by (fun t9_ q9_ => XS.ifYes W0.here W0.hx rfl (pc0 := 1) (pc' := 15) rfl (hb hby dc21_1) rfl ((if0 _ _).trans (feq (by decide)).2) (by decide) (by decide) q9_) ?_
  refine Go.by (fun t9_ q9_ => XS.iloadN W0.here W0.hx rfl (hb hby dc21_15) rfl (XS.iconst W0.here W0.hx rfl (hb hby dc21_16) q9_)) ?_
  refine Go.by (fun t9_ q9_ => XS.icmpYes W0.here W0.hx rfl (pc0 := 17) (pc' := 35) rfl (hb hby dc21_17) rfl (feq (by decide)).2 (by decide) (by decide) q9_) ?_
  refine Go.by (fun t9_ q9_ => XS.iloadN W0.here W0.hx rfl (hb hby dc21_35) rfl (XS.iconst W0.here W0.hx rfl (hb hby dc21_36) q9_)) ?_
  refine Go.by (fun t9_ q9_ => XS.icmpYes W0.here W0.hx rfl (pc0 := 37) (pc' := 59) rfl (hb hby dc21_37) rfl (feq (by decide)).2 (by decide) (by decide) q9_) ?_
  refine Go.by (fun t9_ q9_ => XS.iloadN W0.here W0.hx rfl (hb hby dc21_59) rfl (XS.iconst W0.here W0.hx rfl (hb hby dc21_60) q9_)) ?_
  refine Go.by (fun t9_ q9_ => XS.icmpYes W0.here W0.hx rfl (pc0 := 61) (pc' := 87) rfl (hb hby dc21_61) rfl (feq (by decide)).2 (by decide) (by decide) q9_) ?_
  show Go _ _ _ _ _ _ _ _ _ (T0.setTop (mkF m 87 #[.val (.int (4 : Int32)), .val (.int c0), .val (.int c1), .val (.int c2), .val (.int c3)] []))
  refine W0.new (wd8 hw) (wd9 hw) (wd10 hw) (hb hby dc21_87) (k' := 1) (n' := 4) rfl rfl (by decide) (by decide) ?_
  intro T900 h901 r W902 E903 g_r z_r A_r D_r
  have F_value_r : Fld Z h901 r "java/lang/String" "value" "[B" .null := D_r (Or.inr (wd24 hw)) (ty := (.array .byte)) (by decide)
  have F_coder_r : Fld Z h901 r "java/lang/String" "coder" "B" (.int (0 : Int32)) := D_r (Or.inr (wd25 hw)) (ty := .byte) (by decide)
  refine Go.by (fun t9_ q9_ => XS.dup W902.here W902.hx rfl (hb hby dc21_90) rfl rfl (XS.iconst W902.here W902.hx rfl (hb hby dc21_91) q9_)) ?_
  show Go _ _ _ _ _ _ _ _ _ (T900.setTop (mkF m 92 #[.val (.int (4 : Int32)), .val (.int c0), .val (.int c1), .val (.int c2), .val (.int c3)] [(.int (4 : Int32)), (.ref r), (.ref r)]))
  refine W902.newp (aty := .char) (wd11 hw) (hb hby dc21_92) (by decide) (cap := 4) (by decide) (by decide) (k' := 2) (n' := 8) rfl rfl (by decide) (by decide) (ad := "[C") rfl ?_
  intro T904 h905 ba k_ba W906 E907 g_ba z_ba A_ba V_ba
  have V1_ba : Arv Z h905 ba k_ba .char (4 : Int32) [(.int (0 : Int32)), (.int (0 : Int32)), (.int (0 : Int32)), (.int (0 : Int32))] (.int (0 : Int32)) := V_ba.pad (pad_rep [] (.int (0 : Int32)) 4)
  refine Go.by (fun t9_ q9_ => XS.dup W906.here W906.hx rfl (hb hby dc21_94) rfl rfl (XS.iconst W906.here W906.hx rfl (hb hby dc21_95) (XS.iloadN W906.here W906.hx rfl (hb hby dc21_96) rfl q9_))) ?_
  show Go _ _ _ _ _ _ _ _ _ (T904.setTop (mkF m 97 #[.val (.int (4 : Int32)), .val (.int c0), .val (.int c1), .val (.int c2), .val (.int c3)] [(.int c0), (.int (0 : Int32)), (.ref ba), (.ref ba), (.ref r), (.ref r)]))
  refine W906.cast_ V1_ba ⟨by decide, by decide⟩ (i := 0) rfl (by simp) (v' := c0) (nar_id r0) z_ba (List.mem_of_getElem? (i := 0) rfl) (hb hby dc21_97) ?_
  intro T908 h909 W910 Wr911 V912_ba'
  have V912_ba : Arv Z h909 ba k_ba .char (4 : Int32) [(.int c0), (.int (0 : Int32)), (.int (0 : Int32)), (.int (0 : Int32))] (.int (0 : Int32)) := V912_ba'
  refine Go.by (fun t9_ q9_ => XS.dup W910.here W910.hx rfl (hb hby dc21_98) rfl rfl (XS.iconst W910.here W910.hx rfl (hb hby dc21_99) (XS.iloadN W910.here W910.hx rfl (hb hby dc21_100) rfl q9_))) ?_
  show Go _ _ _ _ _ _ _ _ _ (T908.setTop (mkF m 101 #[.val (.int (4 : Int32)), .val (.int c0), .val (.int c1), .val (.int c2), .val (.int c3)] [(.int c1), (.int (1 : Int32)), (.ref ba), (.ref ba), (.ref r), (.ref r)]))
  refine W910.cast_ V912_ba ⟨by decide, by decide⟩ (i := 1) rfl (by simp) (v' := c1) (nar_id r1) z_ba (List.mem_of_getElem? (i := 0) rfl) (hb hby dc21_101) ?_
  intro T913 h914 W915 Wr916 V917_ba'
  have V917_ba : Arv Z h914 ba k_ba .char (4 : Int32) [(.int c0), (.int c1), (.int (0 : Int32)), (.int (0 : Int32))] (.int (0 : Int32)) := V917_ba'
  refine Go.by (fun t9_ q9_ => XS.dup W915.here W915.hx rfl (hb hby dc21_102) rfl rfl (XS.iconst W915.here W915.hx rfl (hb hby dc21_103) (XS.iloadN W915.here W915.hx rfl (hb hby dc21_104) rfl q9_))) ?_
  show Go _ _ _ _ _ _ _ _ _ (T913.setTop (mkF m 105 #[.val (.int (4 : Int32)), .val (.int c0), .val (.int c1), .val (.int c2), .val (.int c3)] [(.int c2), (.int (2 : Int32)), (.ref ba), (.ref ba), (.ref r), (.ref r)]))
  refine W915.cast_ V917_ba ⟨by decide, by decide⟩ (i := 2) rfl (by simp) (v' := c2) (nar_id r2) z_ba (List.mem_of_getElem? (i := 0) rfl) (hb hby dc21_105) ?_
  intro T918 h919 W920 Wr921 V922_ba'
  have V922_ba : Arv Z h919 ba k_ba .char (4 : Int32) [(.int c0), (.int c1), (.int c2), (.int (0 : Int32))] (.int (0 : Int32)) := V922_ba'
  refine Go.by (fun t9_ q9_ => XS.dup W920.here W920.hx rfl (hb hby dc21_106) rfl rfl (XS.iconst W920.here W920.hx rfl (hb hby dc21_107) (XS.iload W920.here W920.hx rfl (hb hby dc21_108) rfl q9_))) ?_
  show Go _ _ _ _ _ _ _ _ _ (T918.setTop (mkF m 110 #[.val (.int (4 : Int32)), .val (.int c0), .val (.int c1), .val (.int c2), .val (.int c3)] [(.int c3), (.int (3 : Int32)), (.ref ba), (.ref ba), (.ref r), (.ref r)]))
  refine W920.cast_ V922_ba ⟨by decide, by decide⟩ (i := 3) rfl (by simp) (v' := c3) (nar_id r3) z_ba (List.mem_of_getElem? (i := 0) rfl) (hb hby dc21_110) ?_
  intro T923 h924 W925 Wr926 V927_ba'
  have V927_ba : Arv Z h924 ba k_ba .char (4 : Int32) [(.int c0), (.int c1), (.int c2), (.int c3)] (.int (0 : Int32)) := V927_ba'
  by_cases hbig : (255 : Int32) < c0 ∨ (255 : Int32) < c1 ∨ (255 : Int32) < c2 ∨ (255 : Int32) < c3
  · have X928 : Ext h901 h909 := (Ext.wr' E907 Wr911 (Nat.le_of_eq g_ba))
    have X929 : Ext h901 h914 := (Ext.wr' X928 Wr916 (Nat.le_of_eq g_ba))
    have X930 : Ext h901 h919 := (Ext.wr' X929 Wr921 (Nat.le_of_eq g_ba))
    have X931 : Ext h901 h924 := (Ext.wr' X930 Wr926 (Nat.le_of_eq g_ba))
    show Go _ _ _ _ _ _ _ _ _ (T923.setTop (mkF m 111 #[.val (.int (4 : Int32)), .val (.int c0), .val (.int c1), .val (.int c2), .val (.int c3)] [(.ref ba), (.ref r), (.ref r)]))
    refine W925.callI (y := (⟨"java/lang/String", "<init>", "([C)V"⟩ : MethodName)) rfl (wd12 hw) (wd13 hw) (wd10 hw) (wd14 hw) (by decide) (a := r) (c_s16_4 l Z a0 hw hEL h924 W925.old r ba k_ba c0 c1 c2 c3 G1 (A_r.ext X931) (F_value_r.ext X931) (F_coder_r.ext X931) z_r PSH SG1 hG V927_ba r0 r1 r2 r3 hbig) (allS (List.mem_of_getElem? (i := 1) rfl) all0) (by decide) (by decide) (k' := 4) (n' := 20) rfl rfl (by decide) (by decide) (by rw [hml]; rfl) (argsL := [(.ref ba)]) (rest := [(.ref r)]) (lenOf pd_14 rfl) rfl rfl (Wt := 1) (Nat.le_of_eq rfl) (hb hby dc21_111) ?_
    intro v_ T932 h934 W933 hq_
    obtain ⟨rfl, K1, ta, k_ta, E1, FV1, FC1, A1⟩ := hq_
    have S_r : Str Z h934 r [c0, c1, c2, c3] := ⟨ta, k_ta, 1, _, _, E1, FV1, FC1, A1, Or.inr ⟨rfl, rfl, rfl, by simpa using hbig⟩, by simp only [List.mem_cons, List.not_mem_nil, or_false, forall_eq_or_imp, forall_eq]; exact ⟨r0, r1, r2, r3⟩⟩
    have X935 : Ext h0 h905 := (Ext.trans' E903 E907)
    have X936 : Ext h0 h909 := (Ext.wr' X935 Wr911 (Nat.le_trans E903.1 (Nat.le_of_eq g_ba)))
    have X937 : Ext h0 h914 := (Ext.wr' X936 Wr916 (Nat.le_trans E903.1 (Nat.le_of_eq g_ba)))
    have X938 : Ext h0 h919 := (Ext.wr' X937 Wr921 (Nat.le_trans E903.1 (Nat.le_of_eq g_ba)))
    have X939 : Ext h0 h924 := (Ext.wr' X938 Wr926 (Nat.le_trans E903.1 (Nat.le_of_eq g_ba)))
    have X940 : Ext h0 h934 := (Ext.keep' X939 K1 (allS (Nat.le_of_eq g_r) all0))
    show Go _ _ _ _ _ _ _ _ _ (T932.setTop (mkF m 114 #[.val (.int (4 : Int32)), .val (.int c0), .val (.int c1), .val (.int c2), .val (.int c3)] [(.ref r)]))
    exact W933.retA (by decide) (by decide) hret rfl rfl (hb hby dc21_114) ⟨r, rfl, X940, S_r⟩
  · have hlat : ∀ c ∈ [c0, c1, c2, c3], ¬ (255 : Int32) < c := by intro c hc h5; simp only [List.mem_cons, List.not_mem_nil, or_false] at hc; exact hbig (by rcases hc with rfl | rfl | rfl | rfl <;> simp [h5])
    have X945 : Ext h901 h909 := (Ext.wr' E907 Wr911 (Nat.le_of_eq g_ba))
    have X946 : Ext h901 h914 := (Ext.wr' X945 Wr916 (Nat.le_of_eq g_ba))
    have X947 : Ext h901 h919 := (Ext.wr' X946 Wr921 (Nat.le_of_eq g_ba))
    have X948 : Ext h901 h924 := (Ext.wr' X947 Wr926 (Nat.le_of_eq g_ba))
    show Go _ _ _ _ _ _ _ _ _ (T923.setTop (mkF m 111 #[.val (.int (4 : Int32)), .val (.int c0), .val (.int c1), .val (.int c2), .val (.int c3)] [(.ref ba), (.ref r), (.ref r)]))
    refine W925.strV (cs := [c0, c1, c2, c3]) (k_words hw) (wd9 hw) (wd12 hw) (wd13 hw) (A_r.ext X948) (F_value_r.ext X948) (F_coder_r.ext X948) V927_ba (SG1.ext W925.old) hG (q := 4) rfl rfl (by decide) (by decide) (by intro c hc; refine ⟨?_, hlat c hc⟩; simp only [List.mem_cons, List.not_mem_nil, or_false] at hc; rcases hc with rfl | rfl | rfl | rfl; exact r0.1; exact r1.1; exact r2.1; exact r3.1) z_r (List.mem_of_getElem? (i := 1) rfl) (by decide) (Wt := 1) (by decide) (k' := 3) (n' := 12) rfl rfl (by decide) (by decide) (by rw [hml]; rfl) (Nat.le_of_eq rfl) (hb hby dc21_111) ?_
    intro T941 h942 W943 K944 S_r
    have X949 : Ext h0 h905 := (Ext.trans' E903 E907)
    have X950 : Ext h0 h909 := (Ext.wr' X949 Wr911 (Nat.le_trans E903.1 (Nat.le_of_eq g_ba)))
    have X951 : Ext h0 h914 := (Ext.wr' X950 Wr916 (Nat.le_trans E903.1 (Nat.le_of_eq g_ba)))
    have X952 : Ext h0 h919 := (Ext.wr' X951 Wr921 (Nat.le_trans E903.1 (Nat.le_of_eq g_ba)))
    have X953 : Ext h0 h924 := (Ext.wr' X952 Wr926 (Nat.le_trans E903.1 (Nat.le_of_eq g_ba)))
    have X954 : Ext h0 h942 := (Ext.keep' X953 K944 (allS (Nat.le_of_eq g_r) all0))
    show Go _ _ _ _ _ _ _ _ _ (T941.setTop (mkF m 114 #[.val (.int (4 : Int32)), .val (.int c0), .val (.int c1), .val (.int c2), .val (.int c3)] [(.ref r)]))
    exact W943.retA (by decide) (by decide) hret rfl rfl (hb hby dc21_114) ⟨r, rfl, X954, S_r⟩
def res0 ( ff tt : Int32) : Int32 := (if ff < tt then (if (0 : Int32) < tt then (0 : Int32) else (0 : Int32)) else 0)
def res1 (c0 ff tt : Int32) : Int32 := (if ff < tt then (if (1 : Int32) < tt then (0 : Int32) else (if ff = (0 : Int32) then (if (0 : Int32) < tt then (if c0 < (48 : Int32) then (0 : Int32) else if (57 : Int32) < c0 then 0 else (1 : Int32)) else 1) else (0 : Int32))) else 0)
def res2 (c0 c1 ff tt : Int32) : Int32 := (if ff < tt then (if (2 : Int32) < tt then (0 : Int32) else (if ff = (0 : Int32) then (if (0 : Int32) < tt then (if c0 < (48 : Int32) then (0 : Int32) else if (57 : Int32) < c0 then 0 else (if (1 : Int32) < tt then (if c1 < (48 : Int32) then (0 : Int32) else if (57 : Int32) < c1 then 0 else (1 : Int32)) else 1)) else 1) else (if ff = (1 : Int32) then (if (1 : Int32) < tt then (if c1 < (48 : Int32) then (0 : Int32) else if (57 : Int32) < c1 then 0 else (1 : Int32)) else 1) else (0 : Int32)))) else 0)
def res3 (c0 c1 c2 ff tt : Int32) : Int32 := (if ff < tt then (if (3 : Int32) < tt then (0 : Int32) else (if ff = (0 : Int32) then (if (0 : Int32) < tt then (if c0 < (48 : Int32) then (0 : Int32) else if (57 : Int32) < c0 then 0 else (if (1 : Int32) < tt then (if c1 < (48 : Int32) then (0 : Int32) else if (57 : Int32) < c1 then 0 else (if (2 : Int32) < tt then (if c2 < (48 : Int32) then (0 : Int32) else if (57 : Int32) < c2 then 0 else (1 : Int32)) else 1)) else 1)) else 1) else (if ff = (1 : Int32) then (if (1 : Int32) < tt then (if c1 < (48 : Int32) then (0 : Int32) else if (57 : Int32) < c1 then 0 else (if (2 : Int32) < tt then (if c2 < (48 : Int32) then (0 : Int32) else if (57 : Int32) < c2 then 0 else (1 : Int32)) else 1)) else 1) else (if ff = (2 : Int32) then (if (2 : Int32) < tt then (if c2 < (48 : Int32) then (0 : Int32) else if (57 : Int32) < c2 then 0 else (1 : Int32)) else 1) else (0 : Int32))))) else 0)
def res4 (c0 c1 c2 c3 ff tt : Int32) : Int32 := (if ff < tt then (if (4 : Int32) < tt then (0 : Int32) else (if ff = (0 : Int32) then (if (0 : Int32) < tt then (if c0 < (48 : Int32) then (0 : Int32) else if (57 : Int32) < c0 then 0 else (if (1 : Int32) < tt then (if c1 < (48 : Int32) then (0 : Int32) else if (57 : Int32) < c1 then 0 else (if (2 : Int32) < tt then (if c2 < (48 : Int32) then (0 : Int32) else if (57 : Int32) < c2 then 0 else (if (3 : Int32) < tt then (if c3 < (48 : Int32) then (0 : Int32) else if (57 : Int32) < c3 then 0 else (1 : Int32)) else 1)) else 1)) else 1)) else 1) else (if ff = (1 : Int32) then (if (1 : Int32) < tt then (if c1 < (48 : Int32) then (0 : Int32) else if (57 : Int32) < c1 then 0 else (if (2 : Int32) < tt then (if c2 < (48 : Int32) then (0 : Int32) else if (57 : Int32) < c2 then 0 else (if (3 : Int32) < tt then (if c3 < (48 : Int32) then (0 : Int32) else if (57 : Int32) < c3 then 0 else (1 : Int32)) else 1)) else 1)) else 1) else (if ff = (2 : Int32) then (if (2 : Int32) < tt then (if c2 < (48 : Int32) then (0 : Int32) else if (57 : Int32) < c2 then 0 else (if (3 : Int32) < tt then (if c3 < (48 : Int32) then (0 : Int32) else if (57 : Int32) < c3 then 0 else (1 : Int32)) else 1)) else 1) else (if ff = (3 : Int32) then (if (3 : Int32) < tt then (if c3 < (48 : Int32) then (0 : Int32) else if (57 : Int32) < c3 then 0 else (1 : Int32)) else 1) else (0 : Int32)))))) else 0)
theorem ffc1 {ff tt : Int32} (hff : ¬ ff < 0) (h1 : ff < tt) (h2 : ¬ (1 : Int32) < tt) : ff = (0 : Int32) := by
  rw [Int32.lt_iff_toInt_lt] at h1 h2 hff
  have e0 : (0 : Int32).toInt = 0 := rfl
  have en : (1 : Int32).toInt = 1 := rfl
  rcases (by omega : ff.toInt = 0) with q_
  · exact Int32.toInt_inj.mp q_
theorem ttc1 {ff tt : Int32} (hff : ¬ ff < 0) (h1 : ff < tt) (h2 : ¬ (1 : Int32) < tt) : tt = (1 : Int32) := by
  rw [Int32.lt_iff_toInt_lt] at h1 h2 hff
  have e0 : (0 : Int32).toInt = 0 := rfl
  have en : (1 : Int32).toInt = 1 := rfl
  rcases (by omega : tt.toInt = 1) with q_
  · exact Int32.toInt_inj.mp q_
theorem ffc2 {ff tt : Int32} (hff : ¬ ff < 0) (h1 : ff < tt) (h2 : ¬ (2 : Int32) < tt) : ff = (0 : Int32) ∨ ff = (1 : Int32) := by
  rw [Int32.lt_iff_toInt_lt] at h1 h2 hff
  have e0 : (0 : Int32).toInt = 0 := rfl
  have en : (2 : Int32).toInt = 2 := rfl
  rcases (by omega : ff.toInt = 0 ∨ ff.toInt = 1) with q_ | q_
  · exact Or.inl (Int32.toInt_inj.mp q_)
  · exact Or.inr (Int32.toInt_inj.mp q_)
theorem ttc2 {ff tt : Int32} (hff : ¬ ff < 0) (h1 : ff < tt) (h2 : ¬ (2 : Int32) < tt) : tt = (1 : Int32) ∨ tt = (2 : Int32) := by
  rw [Int32.lt_iff_toInt_lt] at h1 h2 hff
  have e0 : (0 : Int32).toInt = 0 := rfl
  have en : (2 : Int32).toInt = 2 := rfl
  rcases (by omega : tt.toInt = 1 ∨ tt.toInt = 2) with q_ | q_
  · exact Or.inl (Int32.toInt_inj.mp q_)
  · exact Or.inr (Int32.toInt_inj.mp q_)
theorem ffc3 {ff tt : Int32} (hff : ¬ ff < 0) (h1 : ff < tt) (h2 : ¬ (3 : Int32) < tt) : ff = (0 : Int32) ∨ ff = (1 : Int32) ∨ ff = (2 : Int32) := by
  rw [Int32.lt_iff_toInt_lt] at h1 h2 hff
  have e0 : (0 : Int32).toInt = 0 := rfl
  have en : (3 : Int32).toInt = 3 := rfl
  rcases (by omega : ff.toInt = 0 ∨ ff.toInt = 1 ∨ ff.toInt = 2) with q_ | q_ | q_
  · exact Or.inl (Int32.toInt_inj.mp q_)
  · exact Or.inr (Or.inl (Int32.toInt_inj.mp q_))
  · exact Or.inr (Or.inr (Int32.toInt_inj.mp q_))
theorem ttc3 {ff tt : Int32} (hff : ¬ ff < 0) (h1 : ff < tt) (h2 : ¬ (3 : Int32) < tt) : tt = (1 : Int32) ∨ tt = (2 : Int32) ∨ tt = (3 : Int32) := by
  rw [Int32.lt_iff_toInt_lt] at h1 h2 hff
  have e0 : (0 : Int32).toInt = 0 := rfl
  have en : (3 : Int32).toInt = 3 := rfl
  rcases (by omega : tt.toInt = 1 ∨ tt.toInt = 2 ∨ tt.toInt = 3) with q_ | q_ | q_
  · exact Or.inl (Int32.toInt_inj.mp q_)
  · exact Or.inr (Or.inl (Int32.toInt_inj.mp q_))
  · exact Or.inr (Or.inr (Int32.toInt_inj.mp q_))
theorem ffc4 {ff tt : Int32} (hff : ¬ ff < 0) (h1 : ff < tt) (h2 : ¬ (4 : Int32) < tt) : ff = (0 : Int32) ∨ ff = (1 : Int32) ∨ ff = (2 : Int32) ∨ ff = (3 : Int32) := by
  rw [Int32.lt_iff_toInt_lt] at h1 h2 hff
  have e0 : (0 : Int32).toInt = 0 := rfl
  have en : (4 : Int32).toInt = 4 := rfl
  rcases (by omega : ff.toInt = 0 ∨ ff.toInt = 1 ∨ ff.toInt = 2 ∨ ff.toInt = 3) with q_ | q_ | q_ | q_
  · exact Or.inl (Int32.toInt_inj.mp q_)
  · exact Or.inr (Or.inl (Int32.toInt_inj.mp q_))
  · exact Or.inr (Or.inr (Or.inl (Int32.toInt_inj.mp q_)))
  · exact Or.inr (Or.inr (Or.inr (Int32.toInt_inj.mp q_)))
theorem ttc4 {ff tt : Int32} (hff : ¬ ff < 0) (h1 : ff < tt) (h2 : ¬ (4 : Int32) < tt) : tt = (1 : Int32) ∨ tt = (2 : Int32) ∨ tt = (3 : Int32) ∨ tt = (4 : Int32) := by
  rw [Int32.lt_iff_toInt_lt] at h1 h2 hff
  have e0 : (0 : Int32).toInt = 0 := rfl
  have en : (4 : Int32).toInt = 4 := rfl
  rcases (by omega : tt.toInt = 1 ∨ tt.toInt = 2 ∨ tt.toInt = 3 ∨ tt.toInt = 4) with q_ | q_ | q_ | q_
  · exact Or.inl (Int32.toInt_inj.mp q_)
  · exact Or.inr (Or.inl (Int32.toInt_inj.mp q_))
  · exact Or.inr (Or.inr (Or.inl (Int32.toInt_inj.mp q_)))
  · exact Or.inr (Or.inr (Or.inr (Int32.toInt_inj.mp q_)))
theorem c_isd0 (l : Launch) (Z : State) (a0 : Array Value) (hw : HW Z a0) (hEL : EW Z a0 [("java/lang/String", 7)]) (h0 : Heap) (hE0 : Ext Z.heap h0) (r : Addr) ( ff tt G1 : Int32) (fm : Value) (PSH : PS3 Z) (SG1 : Sta Z Z.heap "java/lang/String" "COMPACT_STRINGS" "Z" (.int G1)) (hG : ¬ G1 = 0) (SFM : Sta Z Z.heap "jdk/internal/util/Preconditions" "SIOOBE_FORMATTER" "Ljava/util/function/BiFunction;" fm) (rfm : fm.isRef = true) (SR : Str Z h0 r []) (hff : ¬ ff < 0) :
    Con l Z [("java/lang/String", 7)] [] (⟨"com/example/kontraktbuch/kontraktbuch/Notation", "isDigits", "(Ljava/lang/String;II)Z"⟩ : MethodName) prog_29_method_10_code 5 (some .boolean) [] (⟨5, 0, 0, 80⟩ : Room) #[(.ref r), (.int ff), (.int tt)] h0 (fun v h' => v = some (.int (res0 ff tt)) ∧ h' = h0) := by
  refine Con.mk (plainFor_of_name pn_5) hEL hE0 (fun x hx => by cases hx) ?_
  intro p e s m below meth c T0 hby hml hret hnm W0
  rw [(show entryFrame m #[(.ref r), (.int ff), (.int tt)] 5 = mkF m 0 #[.val (.ref r), .val (.int ff), .val (.int tt), .unset, .unset] [] from by first | (simp [entryFrame, mkF, argsToLocals, Value.category]; done) | rfl)]
  refine Go.by (fun t9_ q9_ => XS.iloadN W0.here W0.hx rfl (hb hby dc22_0) rfl (XS.iloadN W0.here W0.hx rfl (hb hby dc22_1) rfl q9_)) ?_
  by_cases h1 : ff < tt
  · refine Go.by (fun t9_ q9_ => XS.icmpNo W0.here W0.hx rfl (hb hby dc22_2) rfl (tlt h1).2.1 q9_) ?_
    refine Go.by (fun t9_ q9_ => XS.iloadN W0.here W0.hx rfl (hb hby dc22_5) rfl (XS.aloadN W0.here W0.hx rfl (hb hby dc22_6) rfl rfl q9_)) ?_
    show Go _ _ _ _ _ _ _ _ _ (T0.setTop (mkF m 7 #[.val (.ref r), .val (.int ff), .val (.int tt), .unset, .unset] [(.ref r), (.int tt)]))
    refine W0.strLen (k_len hw) (wd9 hw) (wd65 hw) (wd66 hw) (wd68 hw) (wd67 hw) SR (by simp) (SG1.ext W0.old) hG (by decide) (Wt := 1) (by decide) (by rw [hml]; rfl) (Nat.le_of_eq rfl) (by decide) (by decide) (hb hby dc22_7) ?_
    intro T955 W956
    by_cases h2 : (0 : Int32) < tt
    · refine Go.by (fun t9_ q9_ => XS.icmpNo W956.here W956.hx rfl (hb hby dc22_10) rfl (tlt h2).2.2.2 q9_) ?_
      refine Go.by (fun t9_ q9_ => XS.iconst W956.here W956.hx rfl (hb hby dc22_13) q9_) ?_
      show Go _ _ _ _ _ _ _ _ _ (T955.setTop (mkF m 14 #[.val (.ref r), .val (.int ff), .val (.int tt), .unset, .unset] [(.int (0 : Int32))]))
      exact W956.retN (z' := (0 : Int32)) (by decide) (by decide) hret (by simp) (hb hby dc22_14) rfl ⟨by unfold res0; rw [if_pos h1, if_pos h2], rfl⟩
    · refine Go.by (fun t9_ q9_ => XS.icmpYes W956.here W956.hx rfl (pc0 := 10) (pc' := 15) rfl (hb hby dc22_10) rfl (flt h2).2.2.2 (by decide) (by decide) q9_) ?_
      exfalso; rw [Int32.lt_iff_toInt_lt] at h1 h2 hff; have e0 : (0 : Int32).toInt = 0 := rfl; omega
  · refine Go.by (fun t9_ q9_ => XS.icmpYes W0.here W0.hx rfl (pc0 := 2) (pc' := 13) rfl (hb hby dc22_2) rfl (flt h1).2.1 (by decide) (by decide) q9_) ?_
    refine Go.by (fun t9_ q9_ => XS.iconst W0.here W0.hx rfl (hb hby dc22_13) q9_) ?_
    show Go _ _ _ _ _ _ _ _ _ (T0.setTop (mkF m 14 #[.val (.ref r), .val (.int ff), .val (.int tt), .unset, .unset] [(.int (0 : Int32))]))
    exact W0.retN (z' := (0 : Int32)) (by decide) (by decide) hret (by simp) (hb hby dc22_14) rfl ⟨by unfold res0; rw [if_neg h1], rfl⟩
theorem c_isd1 (l : Launch) (Z : State) (a0 : Array Value) (hw : HW Z a0) (hEL : EW Z a0 [("java/lang/String", 7)]) (h0 : Heap) (hE0 : Ext Z.heap h0) (r : Addr) (c0 ff tt G1 : Int32) (fm : Value) (PSH : PS3 Z) (SG1 : Sta Z Z.heap "java/lang/String" "COMPACT_STRINGS" "Z" (.int G1)) (hG : ¬ G1 = 0) (SFM : Sta Z Z.heap "jdk/internal/util/Preconditions" "SIOOBE_FORMATTER" "Ljava/util/function/BiFunction;" fm) (rfm : fm.isRef = true) (SR : Str Z h0 r [c0]) (hff : ¬ ff < 0) :
    Con l Z [("java/lang/String", 7)] [] (⟨"com/example/kontraktbuch/kontraktbuch/Notation", "isDigits", "(Ljava/lang/String;II)Z"⟩ : MethodName) prog_29_method_10_code 5 (some .boolean) [] (⟨5, 0, 0, 80⟩ : Room) #[(.ref r), (.int ff), (.int tt)] h0 (fun v h' => v = some (.int (res1 c0 ff tt)) ∧ h' = h0) := by
  refine Con.mk (plainFor_of_name pn_5) hEL hE0 (fun x hx => by cases hx) ?_
  intro p e s m below meth c T0 hby hml hret hnm W0
  rw [(show entryFrame m #[(.ref r), (.int ff), (.int tt)] 5 = mkF m 0 #[.val (.ref r), .val (.int ff), .val (.int tt), .unset, .unset] [] from by first | (simp [entryFrame, mkF, argsToLocals, Value.category]; done) | rfl)]
  refine Go.by (fun t9_ q9_ => XS.iloadN W0.here W0.hx rfl (hb hby dc22_0) rfl (XS.iloadN W0.here W0.hx rfl (hb hby dc22_1) rfl q9_)) ?_
  by_cases h1 : ff < tt
  · refine Go.by (fun t9_ q9_ => XS.icmpNo W0.here W0.hx rfl (hb hby dc22_2) rfl (tlt h1).2.1 q9_) ?_
    refine Go.by (fun t9_ q9_ => XS.iloadN W0.here W0.hx rfl (hb hby dc22_5) rfl (XS.aloadN W0.here W0.hx rfl (hb hby dc22_6) rfl rfl q9_)) ?_
    show Go _ _ _ _ _ _ _ _ _ (T0.setTop (mkF m 7 #[.val (.ref r), .val (.int ff), .val (.int tt), .unset, .unset] [(.ref r), (.int tt)]))
    refine W0.strLen (k_len hw) (wd9 hw) (wd65 hw) (wd66 hw) (wd68 hw) (wd67 hw) SR (by simp) (SG1.ext W0.old) hG (by decide) (Wt := 1) (by decide) (by rw [hml]; rfl) (Nat.le_of_eq rfl) (by decide) (by decide) (hb hby dc22_7) ?_
    intro T957 W958
    by_cases h2 : (1 : Int32) < tt
    · refine Go.by (fun t9_ q9_ => XS.icmpNo W958.here W958.hx rfl (hb hby dc22_10) rfl (tlt h2).2.2.2 q9_) ?_
      refine Go.by (fun t9_ q9_ => XS.iconst W958.here W958.hx rfl (hb hby dc22_13) q9_) ?_
      show Go _ _ _ _ _ _ _ _ _ (T957.setTop (mkF m 14 #[.val (.ref r), .val (.int ff), .val (.int tt), .unset, .unset] [(.int (0 : Int32))]))
      exact W958.retN (z' := (0 : Int32)) (by decide) (by decide) hret (by simp) (hb hby dc22_14) rfl ⟨by unfold res1; rw [if_pos h1, if_pos h2], rfl⟩
    · refine Go.by (fun t9_ q9_ => XS.icmpYes W958.here W958.hx rfl (pc0 := 10) (pc' := 15) rfl (hb hby dc22_10) rfl (flt h2).2.2.2 (by decide) (by decide) q9_) ?_
      have hf := ffc1 hff h1 h2
      refine Go.by (fun t9_ q9_ => XS.iloadN W958.here W958.hx rfl (hb hby dc22_15) rfl (XS.istoreN W958.here W958.hx rfl (hb hby dc22_16) rfl (l' := #[.val (.ref r), .val (.int ff), .val (.int tt), .val (.int ff), .unset]) rfl q9_)) ?_
      have J1 : ∀ (T959 : State) (x4 : Slot), Wk p l e (⟨5, 0, 0, 80⟩ : Room) s m #[(.ref r), (.int ff), (.int tt)] below meth c Z a0 [("java/lang/String", 7)] "com/example/kontraktbuch/kontraktbuch/Notation" [] T959 h0 0 0 → (x4 = .unset ∨ ∃ z : Int32, x4 = .val (.int z)) → (res1 c0 ff tt) = (1 : Int32) → Go p e below s Z [("java/lang/String", 7)] (⟨5, 0, 0, 80⟩ : Room).cells (⟨5, 0, 0, 80⟩ : Room).slots (fun v h' => v = some (.int (res1 c0 ff tt)) ∧ h' = h0) (T959.setTop (mkF m 17 #[.val (.ref r), .val (.int ff), .val (.int tt), .val (.int (1 : Int32)), x4] [])) := by
        intro T959 x4 W960 hx4 hq
        refine Go.by (fun t9_ q9_ => XS.iloadN W960.here W960.hx rfl (hb hby dc22_17) rfl (XS.iloadN W960.here W960.hx rfl (hb hby dc22_18) rfl q9_)) ?_
        refine Go.by (fun t9_ q9_ => XS.icmpYes W960.here W960.hx rfl (pc0 := 19) (pc' := 51) rfl (hb hby dc22_19) rfl (flt h2).2.1 (by decide) (by decide) q9_) ?_
        refine Go.by (fun t9_ q9_ => XS.iconst W960.here W960.hx rfl (hb hby dc22_51) q9_) ?_
        show Go _ _ _ _ _ _ _ _ _ (T959.setTop (mkF m 52 #[.val (.ref r), .val (.int ff), .val (.int tt), .val (.int (1 : Int32)), x4] [(.int (1 : Int32))]))
        exact W960.retN (z' := (1 : Int32)) (by decide) (by decide) hret (by simp) (hb hby dc22_52) rfl ⟨by rw [hq], rfl⟩
      have J0 : ∀ (T961 : State) (x4 : Slot), Wk p l e (⟨5, 0, 0, 80⟩ : Room) s m #[(.ref r), (.int ff), (.int tt)] below meth c Z a0 [("java/lang/String", 7)] "com/example/kontraktbuch/kontraktbuch/Notation" [] T961 h0 0 0 → (x4 = .unset ∨ ∃ z : Int32, x4 = .val (.int z)) → (res1 c0 ff tt) = (if (0 : Int32) < tt then (if c0 < (48 : Int32) then (0 : Int32) else if (57 : Int32) < c0 then 0 else (1 : Int32)) else 1) → Go p e below s Z [("java/lang/String", 7)] (⟨5, 0, 0, 80⟩ : Room).cells (⟨5, 0, 0, 80⟩ : Room).slots (fun v h' => v = some (.int (res1 c0 ff tt)) ∧ h' = h0) (T961.setTop (mkF m 17 #[.val (.ref r), .val (.int ff), .val (.int tt), .val (.int (0 : Int32)), x4] [])) := by
        intro T961 x4 W962 hx4 hq
        refine Go.by (fun t9_ q9_ => XS.iloadN W962.here W962.hx rfl (hb hby dc22_17) rfl (XS.iloadN W962.here W962.hx rfl (hb hby dc22_18) rfl q9_)) ?_
        by_cases g_ : (0 : Int32) < tt
        · refine Go.by (fun t9_ q9_ => XS.icmpNo W962.here W962.hx rfl (hb hby dc22_19) rfl (tlt g_).2.1 q9_) ?_
          refine Go.by (fun t9_ q9_ => XS.aloadN W962.here W962.hx rfl (hb hby dc22_22) rfl rfl (XS.iloadN W962.here W962.hx rfl (hb hby dc22_23) rfl q9_)) ?_
          show Go _ _ _ _ _ _ _ _ _ (T961.setTop (mkF m 24 #[.val (.ref r), .val (.int ff), .val (.int tt), .val (.int (0 : Int32)), x4] [(.int (0 : Int32)), (.ref r)]))
          refine W962.callVp (y := (⟨"java/lang/String", "charAt", "(I)C"⟩ : MethodName)) (z := (⟨"java/lang/String", "charAt", "(I)C"⟩ : MethodName)) (wd81 hw) (wd82 hw) (nf_sel rfl (wd84 hw)) (wd84 hw) (wd83 hw) (wd10 hw) (wd85 hw) (by decide) SR.exa (a := r) (c_ca1_0 l Z a0 hw hEL h0 hE0 r c0 G1 fm SG1 hG PSH SFM rfm SR) all0 (by decide) (by decide) (k' := 0) (n' := 0) rfl rfl (by decide) (by decide) (by rw [hml]; rfl) (argsL := [(.int (0 : Int32))]) (rest := []) (lenOf pd_15 rfl) rfl rfl (Wt := 0) (Nat.le_of_eq rfl) (hb hby dc22_24) ?_
          intro T963 W964
          refine Go.by (fun t9_ q9_ => XS.istore W964.here W964.hx rfl (hb hby dc22_27) rfl (l' := #[.val (.ref r), .val (.int ff), .val (.int tt), .val (.int (0 : Int32)), .val (.int c0)]) (by rcases hx4 with h_ | ⟨z_, h_⟩ <;> rw [h_] <;> rfl) (XS.iload W964.here W964.hx rfl (hb hby dc22_29) rfl (XS.bipush W964.here W964.hx rfl (hb hby dc22_31) q9_))) ?_
          by_cases d1 : c0 < (48 : Int32)
          · refine Go.by (fun t9_ q9_ => XS.icmpYes W964.here W964.hx rfl (pc0 := 33) (pc' := 43) rfl (hb hby dc22_33) rfl (tlt d1).1 (by decide) (by decide) q9_) ?_
            refine Go.by (fun t9_ q9_ => XS.iconst W964.here W964.hx rfl (hb hby dc22_43) q9_) ?_
            show Go _ _ _ _ _ _ _ _ _ (T963.setTop (mkF m 44 #[.val (.ref r), .val (.int ff), .val (.int tt), .val (.int (0 : Int32)), .val (.int c0)] [(.int (0 : Int32))]))
            exact W964.retN (z' := (0 : Int32)) (by decide) (by decide) hret (by simp) (hb hby dc22_44) rfl ⟨by rw [hq, if_pos g_, if_pos d1], rfl⟩
          · refine Go.by (fun t9_ q9_ => XS.icmpNo W964.here W964.hx rfl (hb hby dc22_33) rfl (flt d1).1 q9_) ?_
            refine Go.by (fun t9_ q9_ => XS.iload W964.here W964.hx rfl (hb hby dc22_36) rfl (XS.bipush W964.here W964.hx rfl (hb hby dc22_38) q9_)) ?_
            by_cases d2 : (57 : Int32) < c0
            · refine Go.by (fun t9_ q9_ => XS.icmpNo W964.here W964.hx rfl (hb hby dc22_40) rfl (tlt d2).2.2.2 q9_) ?_
              refine Go.by (fun t9_ q9_ => XS.iconst W964.here W964.hx rfl (hb hby dc22_43) q9_) ?_
              show Go _ _ _ _ _ _ _ _ _ (T963.setTop (mkF m 44 #[.val (.ref r), .val (.int ff), .val (.int tt), .val (.int (0 : Int32)), .val (.int c0)] [(.int (0 : Int32))]))
              exact W964.retN (z' := (0 : Int32)) (by decide) (by decide) hret (by simp) (hb hby dc22_44) rfl ⟨by rw [hq, if_pos g_, if_neg d1, if_pos d2], rfl⟩
            · refine Go.by (fun t9_ q9_ => XS.icmpYes W964.here W964.hx rfl (pc0 := 40) (pc' := 45) rfl (hb hby dc22_40) rfl (flt d2).2.2.2 (by decide) (by decide) q9_) ?_
              refine Go.by (fun t9_ q9_ => XS.iinc W964.here W964.hx rfl (hb hby dc22_45) rfl (l' := #[.val (.ref r), .val (.int ff), .val (.int tt), .val (.int ((0 : Int32) + (1 : Int32))), .val (.int c0)]) rfl q9_) ?_
              show Go _ _ _ _ _ _ _ _ _ (T963.setTop (mkF m 48 #[.val (.ref r), .val (.int ff), .val (.int tt), .val (.int (1 : Int32)), .val (.int c0)] []))
              refine Go.by (fun t9_ q9_ => XS.goto W964.here W964.hx rfl (pc0 := 48) (pc' := 17) rfl (hb hby dc22_48) (by decide) (by decide) q9_) ?_
              exact J1 _ _ W964 (Or.inr ⟨_, rfl⟩) (by rw [hq, if_pos g_, if_neg d1, if_neg d2])
        · refine Go.by (fun t9_ q9_ => XS.icmpYes W962.here W962.hx rfl (pc0 := 19) (pc' := 51) rfl (hb hby dc22_19) rfl (flt g_).2.1 (by decide) (by decide) q9_) ?_
          refine Go.by (fun t9_ q9_ => XS.iconst W962.here W962.hx rfl (hb hby dc22_51) q9_) ?_
          show Go _ _ _ _ _ _ _ _ _ (T961.setTop (mkF m 52 #[.val (.ref r), .val (.int ff), .val (.int tt), .val (.int (0 : Int32)), x4] [(.int (1 : Int32))]))
          exact W962.retN (z' := (1 : Int32)) (by decide) (by decide) hret (by simp) (hb hby dc22_52) rfl ⟨by rw [hq, if_neg g_], rfl⟩
      rcases hf with rfl
      · exact J0 _ _ W958 (Or.inl rfl) (by unfold res1; rw [if_pos h1, if_neg h2, if_pos rfl])
  · refine Go.by (fun t9_ q9_ => XS.icmpYes W0.here W0.hx rfl (pc0 := 2) (pc' := 13) rfl (hb hby dc22_2) rfl (flt h1).2.1 (by decide) (by decide) q9_) ?_
    refine Go.by (fun t9_ q9_ => XS.iconst W0.here W0.hx rfl (hb hby dc22_13) q9_) ?_
    show Go _ _ _ _ _ _ _ _ _ (T0.setTop (mkF m 14 #[.val (.ref r), .val (.int ff), .val (.int tt), .unset, .unset] [(.int (0 : Int32))]))
    exact W0.retN (z' := (0 : Int32)) (by decide) (by decide) hret (by simp) (hb hby dc22_14) rfl ⟨by unfold res1; rw [if_neg h1], rfl⟩
theorem c_isd2 (l : Launch) (Z : State) (a0 : Array Value) (hw : HW Z a0) (hEL : EW Z a0 [("java/lang/String", 7)]) (h0 : Heap) (hE0 : Ext Z.heap h0) (r : Addr) (c0 c1 ff tt G1 : Int32) (fm : Value) (PSH : PS3 Z) (SG1 : Sta Z Z.heap "java/lang/String" "COMPACT_STRINGS" "Z" (.int G1)) (hG : ¬ G1 = 0) (SFM : Sta Z Z.heap "jdk/internal/util/Preconditions" "SIOOBE_FORMATTER" "Ljava/util/function/BiFunction;" fm) (rfm : fm.isRef = true) (SR : Str Z h0 r [c0, c1]) (hff : ¬ ff < 0) :
    Con l Z [("java/lang/String", 7)] [] (⟨"com/example/kontraktbuch/kontraktbuch/Notation", "isDigits", "(Ljava/lang/String;II)Z"⟩ : MethodName) prog_29_method_10_code 5 (some .boolean) [] (⟨5, 0, 0, 80⟩ : Room) #[(.ref r), (.int ff), (.int tt)] h0 (fun v h' => v = some (.int (res2 c0 c1 ff tt)) ∧ h' = h0) := by
  refine Con.mk (plainFor_of_name pn_5) hEL hE0 (fun x hx => by cases hx) ?_
  intro p e s m below meth c T0 hby hml hret hnm W0
  rw [(show entryFrame m #[(.ref r), (.int ff), (.int tt)] 5 = mkF m 0 #[.val (.ref r), .val (.int ff), .val (.int tt), .unset, .unset] [] from by first | (simp [entryFrame, mkF, argsToLocals, Value.category]; done) | rfl)]
  refine Go.by (fun t9_ q9_ => XS.iloadN W0.here W0.hx rfl (hb hby dc22_0) rfl (XS.iloadN W0.here W0.hx rfl (hb hby dc22_1) rfl q9_)) ?_
  by_cases h1 : ff < tt
  · refine Go.by (fun t9_ q9_ => XS.icmpNo W0.here W0.hx rfl (hb hby dc22_2) rfl (tlt h1).2.1 q9_) ?_
    refine Go.by (fun t9_ q9_ => XS.iloadN W0.here W0.hx rfl (hb hby dc22_5) rfl (XS.aloadN W0.here W0.hx rfl (hb hby dc22_6) rfl rfl q9_)) ?_
    show Go _ _ _ _ _ _ _ _ _ (T0.setTop (mkF m 7 #[.val (.ref r), .val (.int ff), .val (.int tt), .unset, .unset] [(.ref r), (.int tt)]))
    refine W0.strLen (k_len hw) (wd9 hw) (wd65 hw) (wd66 hw) (wd68 hw) (wd67 hw) SR (by simp) (SG1.ext W0.old) hG (by decide) (Wt := 1) (by decide) (by rw [hml]; rfl) (Nat.le_of_eq rfl) (by decide) (by decide) (hb hby dc22_7) ?_
    intro T965 W966
    by_cases h2 : (2 : Int32) < tt
    · refine Go.by (fun t9_ q9_ => XS.icmpNo W966.here W966.hx rfl (hb hby dc22_10) rfl (tlt h2).2.2.2 q9_) ?_
      refine Go.by (fun t9_ q9_ => XS.iconst W966.here W966.hx rfl (hb hby dc22_13) q9_) ?_
      show Go _ _ _ _ _ _ _ _ _ (T965.setTop (mkF m 14 #[.val (.ref r), .val (.int ff), .val (.int tt), .unset, .unset] [(.int (0 : Int32))]))
      exact W966.retN (z' := (0 : Int32)) (by decide) (by decide) hret (by simp) (hb hby dc22_14) rfl ⟨by unfold res2; rw [if_pos h1, if_pos h2], rfl⟩
    · refine Go.by (fun t9_ q9_ => XS.icmpYes W966.here W966.hx rfl (pc0 := 10) (pc' := 15) rfl (hb hby dc22_10) rfl (flt h2).2.2.2 (by decide) (by decide) q9_) ?_
      have hf := ffc2 hff h1 h2
      refine Go.by (fun t9_ q9_ => XS.iloadN W966.here W966.hx rfl (hb hby dc22_15) rfl (XS.istoreN W966.here W966.hx rfl (hb hby dc22_16) rfl (l' := #[.val (.ref r), .val (.int ff), .val (.int tt), .val (.int ff), .unset]) rfl q9_)) ?_
      have J2 : ∀ (T967 : State) (x4 : Slot), Wk p l e (⟨5, 0, 0, 80⟩ : Room) s m #[(.ref r), (.int ff), (.int tt)] below meth c Z a0 [("java/lang/String", 7)] "com/example/kontraktbuch/kontraktbuch/Notation" [] T967 h0 0 0 → (x4 = .unset ∨ ∃ z : Int32, x4 = .val (.int z)) → (res2 c0 c1 ff tt) = (1 : Int32) → Go p e below s Z [("java/lang/String", 7)] (⟨5, 0, 0, 80⟩ : Room).cells (⟨5, 0, 0, 80⟩ : Room).slots (fun v h' => v = some (.int (res2 c0 c1 ff tt)) ∧ h' = h0) (T967.setTop (mkF m 17 #[.val (.ref r), .val (.int ff), .val (.int tt), .val (.int (2 : Int32)), x4] [])) := by
        intro T967 x4 W968 hx4 hq
        refine Go.by (fun t9_ q9_ => XS.iloadN W968.here W968.hx rfl (hb hby dc22_17) rfl (XS.iloadN W968.here W968.hx rfl (hb hby dc22_18) rfl q9_)) ?_
        refine Go.by (fun t9_ q9_ => XS.icmpYes W968.here W968.hx rfl (pc0 := 19) (pc' := 51) rfl (hb hby dc22_19) rfl (flt h2).2.1 (by decide) (by decide) q9_) ?_
        refine Go.by (fun t9_ q9_ => XS.iconst W968.here W968.hx rfl (hb hby dc22_51) q9_) ?_
        show Go _ _ _ _ _ _ _ _ _ (T967.setTop (mkF m 52 #[.val (.ref r), .val (.int ff), .val (.int tt), .val (.int (2 : Int32)), x4] [(.int (1 : Int32))]))
        exact W968.retN (z' := (1 : Int32)) (by decide) (by decide) hret (by simp) (hb hby dc22_52) rfl ⟨by rw [hq], rfl⟩
      have J1 : ∀ (T969 : State) (x4 : Slot), Wk p l e (⟨5, 0, 0, 80⟩ : Room) s m #[(.ref r), (.int ff), (.int tt)] below meth c Z a0 [("java/lang/String", 7)] "com/example/kontraktbuch/kontraktbuch/Notation" [] T969 h0 0 0 → (x4 = .unset ∨ ∃ z : Int32, x4 = .val (.int z)) → (res2 c0 c1 ff tt) = (if (1 : Int32) < tt then (if c1 < (48 : Int32) then (0 : Int32) else if (57 : Int32) < c1 then 0 else (1 : Int32)) else 1) → Go p e below s Z [("java/lang/String", 7)] (⟨5, 0, 0, 80⟩ : Room).cells (⟨5, 0, 0, 80⟩ : Room).slots (fun v h' => v = some (.int (res2 c0 c1 ff tt)) ∧ h' = h0) (T969.setTop (mkF m 17 #[.val (.ref r), .val (.int ff), .val (.int tt), .val (.int (1 : Int32)), x4] [])) := by
        intro T969 x4 W970 hx4 hq
        refine Go.by (fun t9_ q9_ => XS.iloadN W970.here W970.hx rfl (hb hby dc22_17) rfl (XS.iloadN W970.here W970.hx rfl (hb hby dc22_18) rfl q9_)) ?_
        by_cases g_ : (1 : Int32) < tt
        · refine Go.by (fun t9_ q9_ => XS.icmpNo W970.here W970.hx rfl (hb hby dc22_19) rfl (tlt g_).2.1 q9_) ?_
          refine Go.by (fun t9_ q9_ => XS.aloadN W970.here W970.hx rfl (hb hby dc22_22) rfl rfl (XS.iloadN W970.here W970.hx rfl (hb hby dc22_23) rfl q9_)) ?_
          show Go _ _ _ _ _ _ _ _ _ (T969.setTop (mkF m 24 #[.val (.ref r), .val (.int ff), .val (.int tt), .val (.int (1 : Int32)), x4] [(.int (1 : Int32)), (.ref r)]))
          refine W970.callVp (y := (⟨"java/lang/String", "charAt", "(I)C"⟩ : MethodName)) (z := (⟨"java/lang/String", "charAt", "(I)C"⟩ : MethodName)) (wd81 hw) (wd82 hw) (nf_sel rfl (wd84 hw)) (wd84 hw) (wd83 hw) (wd10 hw) (wd85 hw) (by decide) SR.exa (a := r) (c_ca2_1 l Z a0 hw hEL h0 hE0 r c0 c1 G1 fm SG1 hG PSH SFM rfm SR) all0 (by decide) (by decide) (k' := 0) (n' := 0) rfl rfl (by decide) (by decide) (by rw [hml]; rfl) (argsL := [(.int (1 : Int32))]) (rest := []) (lenOf pd_15 rfl) rfl rfl (Wt := 0) (Nat.le_of_eq rfl) (hb hby dc22_24) ?_
          intro T971 W972
          refine Go.by (fun t9_ q9_ => XS.istore W972.here W972.hx rfl (hb hby dc22_27) rfl (l' := #[.val (.ref r), .val (.int ff), .val (.int tt), .val (.int (1 : Int32)), .val (.int c1)]) (by rcases hx4 with h_ | ⟨z_, h_⟩ <;> rw [h_] <;> rfl) (XS.iload W972.here W972.hx rfl (hb hby dc22_29) rfl (XS.bipush W972.here W972.hx rfl (hb hby dc22_31) q9_))) ?_
          by_cases d1 : c1 < (48 : Int32)
          · refine Go.by (fun t9_ q9_ => XS.icmpYes W972.here W972.hx rfl (pc0 := 33) (pc' := 43) rfl (hb hby dc22_33) rfl (tlt d1).1 (by decide) (by decide) q9_) ?_
            refine Go.by (fun t9_ q9_ => XS.iconst W972.here W972.hx rfl (hb hby dc22_43) q9_) ?_
            show Go _ _ _ _ _ _ _ _ _ (T971.setTop (mkF m 44 #[.val (.ref r), .val (.int ff), .val (.int tt), .val (.int (1 : Int32)), .val (.int c1)] [(.int (0 : Int32))]))
            exact W972.retN (z' := (0 : Int32)) (by decide) (by decide) hret (by simp) (hb hby dc22_44) rfl ⟨by rw [hq, if_pos g_, if_pos d1], rfl⟩
          · refine Go.by (fun t9_ q9_ => XS.icmpNo W972.here W972.hx rfl (hb hby dc22_33) rfl (flt d1).1 q9_) ?_
            refine Go.by (fun t9_ q9_ => XS.iload W972.here W972.hx rfl (hb hby dc22_36) rfl (XS.bipush W972.here W972.hx rfl (hb hby dc22_38) q9_)) ?_
            by_cases d2 : (57 : Int32) < c1
            · refine Go.by (fun t9_ q9_ => XS.icmpNo W972.here W972.hx rfl (hb hby dc22_40) rfl (tlt d2).2.2.2 q9_) ?_
              refine Go.by (fun t9_ q9_ => XS.iconst W972.here W972.hx rfl (hb hby dc22_43) q9_) ?_
              show Go _ _ _ _ _ _ _ _ _ (T971.setTop (mkF m 44 #[.val (.ref r), .val (.int ff), .val (.int tt), .val (.int (1 : Int32)), .val (.int c1)] [(.int (0 : Int32))]))
              exact W972.retN (z' := (0 : Int32)) (by decide) (by decide) hret (by simp) (hb hby dc22_44) rfl ⟨by rw [hq, if_pos g_, if_neg d1, if_pos d2], rfl⟩
            · refine Go.by (fun t9_ q9_ => XS.icmpYes W972.here W972.hx rfl (pc0 := 40) (pc' := 45) rfl (hb hby dc22_40) rfl (flt d2).2.2.2 (by decide) (by decide) q9_) ?_
              refine Go.by (fun t9_ q9_ => XS.iinc W972.here W972.hx rfl (hb hby dc22_45) rfl (l' := #[.val (.ref r), .val (.int ff), .val (.int tt), .val (.int ((1 : Int32) + (1 : Int32))), .val (.int c1)]) rfl q9_) ?_
              show Go _ _ _ _ _ _ _ _ _ (T971.setTop (mkF m 48 #[.val (.ref r), .val (.int ff), .val (.int tt), .val (.int (2 : Int32)), .val (.int c1)] []))
              refine Go.by (fun t9_ q9_ => XS.goto W972.here W972.hx rfl (pc0 := 48) (pc' := 17) rfl (hb hby dc22_48) (by decide) (by decide) q9_) ?_
              exact J2 _ _ W972 (Or.inr ⟨_, rfl⟩) (by rw [hq, if_pos g_, if_neg d1, if_neg d2])
        · refine Go.by (fun t9_ q9_ => XS.icmpYes W970.here W970.hx rfl (pc0 := 19) (pc' := 51) rfl (hb hby dc22_19) rfl (flt g_).2.1 (by decide) (by decide) q9_) ?_
          refine Go.by (fun t9_ q9_ => XS.iconst W970.here W970.hx rfl (hb hby dc22_51) q9_) ?_
          show Go _ _ _ _ _ _ _ _ _ (T969.setTop (mkF m 52 #[.val (.ref r), .val (.int ff), .val (.int tt), .val (.int (1 : Int32)), x4] [(.int (1 : Int32))]))
          exact W970.retN (z' := (1 : Int32)) (by decide) (by decide) hret (by simp) (hb hby dc22_52) rfl ⟨by rw [hq, if_neg g_], rfl⟩
      have J0 : ∀ (T973 : State) (x4 : Slot), Wk p l e (⟨5, 0, 0, 80⟩ : Room) s m #[(.ref r), (.int ff), (.int tt)] below meth c Z a0 [("java/lang/String", 7)] "com/example/kontraktbuch/kontraktbuch/Notation" [] T973 h0 0 0 → (x4 = .unset ∨ ∃ z : Int32, x4 = .val (.int z)) → (res2 c0 c1 ff tt) = (if (0 : Int32) < tt then (if c0 < (48 : Int32) then (0 : Int32) else if (57 : Int32) < c0 then 0 else (if (1 : Int32) < tt then (if c1 < (48 : Int32) then (0 : Int32) else if (57 : Int32) < c1 then 0 else (1 : Int32)) else 1)) else 1) → Go p e below s Z [("java/lang/String", 7)] (⟨5, 0, 0, 80⟩ : Room).cells (⟨5, 0, 0, 80⟩ : Room).slots (fun v h' => v = some (.int (res2 c0 c1 ff tt)) ∧ h' = h0) (T973.setTop (mkF m 17 #[.val (.ref r), .val (.int ff), .val (.int tt), .val (.int (0 : Int32)), x4] [])) := by
        intro T973 x4 W974 hx4 hq
        refine Go.by (fun t9_ q9_ => XS.iloadN W974.here W974.hx rfl (hb hby dc22_17) rfl (XS.iloadN W974.here W974.hx rfl (hb hby dc22_18) rfl q9_)) ?_
        by_cases g_ : (0 : Int32) < tt
        · refine Go.by (fun t9_ q9_ => XS.icmpNo W974.here W974.hx rfl (hb hby dc22_19) rfl (tlt g_).2.1 q9_) ?_
          refine Go.by (fun t9_ q9_ => XS.aloadN W974.here W974.hx rfl (hb hby dc22_22) rfl rfl (XS.iloadN W974.here W974.hx rfl (hb hby dc22_23) rfl q9_)) ?_
          show Go _ _ _ _ _ _ _ _ _ (T973.setTop (mkF m 24 #[.val (.ref r), .val (.int ff), .val (.int tt), .val (.int (0 : Int32)), x4] [(.int (0 : Int32)), (.ref r)]))
          refine W974.callVp (y := (⟨"java/lang/String", "charAt", "(I)C"⟩ : MethodName)) (z := (⟨"java/lang/String", "charAt", "(I)C"⟩ : MethodName)) (wd81 hw) (wd82 hw) (nf_sel rfl (wd84 hw)) (wd84 hw) (wd83 hw) (wd10 hw) (wd85 hw) (by decide) SR.exa (a := r) (c_ca2_0 l Z a0 hw hEL h0 hE0 r c0 c1 G1 fm SG1 hG PSH SFM rfm SR) all0 (by decide) (by decide) (k' := 0) (n' := 0) rfl rfl (by decide) (by decide) (by rw [hml]; rfl) (argsL := [(.int (0 : Int32))]) (rest := []) (lenOf pd_15 rfl) rfl rfl (Wt := 0) (Nat.le_of_eq rfl) (hb hby dc22_24) ?_
          intro T975 W976
          refine Go.by (fun t9_ q9_ => XS.istore W976.here W976.hx rfl (hb hby dc22_27) rfl (l' := #[.val (.ref r), .val (.int ff), .val (.int tt), .val (.int (0 : Int32)), .val (.int c0)]) (by rcases hx4 with h_ | ⟨z_, h_⟩ <;> rw [h_] <;> rfl) (XS.iload W976.here W976.hx rfl (hb hby dc22_29) rfl (XS.bipush W976.here W976.hx rfl (hb hby dc22_31) q9_))) ?_
          by_cases d1 : c0 < (48 : Int32)
          · refine Go.by (fun t9_ q9_ => XS.icmpYes W976.here W976.hx rfl (pc0 := 33) (pc' := 43) rfl (hb hby dc22_33) rfl (tlt d1).1 (by decide) (by decide) q9_) ?_
            refine Go.by (fun t9_ q9_ => XS.iconst W976.here W976.hx rfl (hb hby dc22_43) q9_) ?_
            show Go _ _ _ _ _ _ _ _ _ (T975.setTop (mkF m 44 #[.val (.ref r), .val (.int ff), .val (.int tt), .val (.int (0 : Int32)), .val (.int c0)] [(.int (0 : Int32))]))
            exact W976.retN (z' := (0 : Int32)) (by decide) (by decide) hret (by simp) (hb hby dc22_44) rfl ⟨by rw [hq, if_pos g_, if_pos d1], rfl⟩
          · refine Go.by (fun t9_ q9_ => XS.icmpNo W976.here W976.hx rfl (hb hby dc22_33) rfl (flt d1).1 q9_) ?_
            refine Go.by (fun t9_ q9_ => XS.iload W976.here W976.hx rfl (hb hby dc22_36) rfl (XS.bipush W976.here W976.hx rfl (hb hby dc22_38) q9_)) ?_
            by_cases d2 : (57 : Int32) < c0
            · refine Go.by (fun t9_ q9_ => XS.icmpNo W976.here W976.hx rfl (hb hby dc22_40) rfl (tlt d2).2.2.2 q9_) ?_
              refine Go.by (fun t9_ q9_ => XS.iconst W976.here W976.hx rfl (hb hby dc22_43) q9_) ?_
              show Go _ _ _ _ _ _ _ _ _ (T975.setTop (mkF m 44 #[.val (.ref r), .val (.int ff), .val (.int tt), .val (.int (0 : Int32)), .val (.int c0)] [(.int (0 : Int32))]))
              exact W976.retN (z' := (0 : Int32)) (by decide) (by decide) hret (by simp) (hb hby dc22_44) rfl ⟨by rw [hq, if_pos g_, if_neg d1, if_pos d2], rfl⟩
            · refine Go.by (fun t9_ q9_ => XS.icmpYes W976.here W976.hx rfl (pc0 := 40) (pc' := 45) rfl (hb hby dc22_40) rfl (flt d2).2.2.2 (by decide) (by decide) q9_) ?_
              refine Go.by (fun t9_ q9_ => XS.iinc W976.here W976.hx rfl (hb hby dc22_45) rfl (l' := #[.val (.ref r), .val (.int ff), .val (.int tt), .val (.int ((0 : Int32) + (1 : Int32))), .val (.int c0)]) rfl q9_) ?_
              show Go _ _ _ _ _ _ _ _ _ (T975.setTop (mkF m 48 #[.val (.ref r), .val (.int ff), .val (.int tt), .val (.int (1 : Int32)), .val (.int c0)] []))
              refine Go.by (fun t9_ q9_ => XS.goto W976.here W976.hx rfl (pc0 := 48) (pc' := 17) rfl (hb hby dc22_48) (by decide) (by decide) q9_) ?_
              exact J1 _ _ W976 (Or.inr ⟨_, rfl⟩) (by rw [hq, if_pos g_, if_neg d1, if_neg d2])
        · refine Go.by (fun t9_ q9_ => XS.icmpYes W974.here W974.hx rfl (pc0 := 19) (pc' := 51) rfl (hb hby dc22_19) rfl (flt g_).2.1 (by decide) (by decide) q9_) ?_
          refine Go.by (fun t9_ q9_ => XS.iconst W974.here W974.hx rfl (hb hby dc22_51) q9_) ?_
          show Go _ _ _ _ _ _ _ _ _ (T973.setTop (mkF m 52 #[.val (.ref r), .val (.int ff), .val (.int tt), .val (.int (0 : Int32)), x4] [(.int (1 : Int32))]))
          exact W974.retN (z' := (1 : Int32)) (by decide) (by decide) hret (by simp) (hb hby dc22_52) rfl ⟨by rw [hq, if_neg g_], rfl⟩
      rcases hf with rfl | rfl
      · exact J0 _ _ W966 (Or.inl rfl) (by unfold res2; rw [if_pos h1, if_neg h2, if_pos rfl])
      · exact J1 _ _ W966 (Or.inl rfl) (by unfold res2; rw [if_pos h1, if_neg h2, if_neg (by decide), if_pos rfl])
  · refine Go.by (fun t9_ q9_ => XS.icmpYes W0.here W0.hx rfl (pc0 := 2) (pc' := 13) rfl (hb hby dc22_2) rfl (flt h1).2.1 (by decide) (by decide) q9_) ?_
    refine Go.by (fun t9_ q9_ => XS.iconst W0.here W0.hx rfl (hb hby dc22_13) q9_) ?_
    show Go _ _ _ _ _ _ _ _ _ (T0.setTop (mkF m 14 #[.val (.ref r), .val (.int ff), .val (.int tt), .unset, .unset] [(.int (0 : Int32))]))
    exact W0.retN (z' := (0 : Int32)) (by decide) (by decide) hret (by simp) (hb hby dc22_14) rfl ⟨by unfold res2; rw [if_neg h1], rfl⟩
theorem c_isd3 (l : Launch) (Z : State) (a0 : Array Value) (hw : HW Z a0) (hEL : EW Z a0 [("java/lang/String", 7)]) (h0 : Heap) (hE0 : Ext Z.heap h0) (r : Addr) (c0 c1 c2 ff tt G1 : Int32) (fm : Value) (PSH : PS3 Z) (SG1 : Sta Z Z.heap "java/lang/String" "COMPACT_STRINGS" "Z" (.int G1)) (hG : ¬ G1 = 0) (SFM : Sta Z Z.heap "jdk/internal/util/Preconditions" "SIOOBE_FORMATTER" "Ljava/util/function/BiFunction;" fm) (rfm : fm.isRef = true) (SR : Str Z h0 r [c0, c1, c2]) (hff : ¬ ff < 0) :
    Con l Z [("java/lang/String", 7)] [] (⟨"com/example/kontraktbuch/kontraktbuch/Notation", "isDigits", "(Ljava/lang/String;II)Z"⟩ : MethodName) prog_29_method_10_code 5 (some .boolean) [] (⟨5, 0, 0, 80⟩ : Room) #[(.ref r), (.int ff), (.int tt)] h0 (fun v h' => v = some (.int (res3 c0 c1 c2 ff tt)) ∧ h' = h0) := by
  refine Con.mk (plainFor_of_name pn_5) hEL hE0 (fun x hx => by cases hx) ?_
  intro p e s m below meth c T0 hby hml hret hnm W0
  rw [(show entryFrame m #[(.ref r), (.int ff), (.int tt)] 5 = mkF m 0 #[.val (.ref r), .val (.int ff), .val (.int tt), .unset, .unset] [] from by first | (simp [entryFrame, mkF, argsToLocals, Value.category]; done) | rfl)]
  refine Go.by (fun t9_ q9_ => XS.iloadN W0.here W0.hx rfl (hb hby dc22_0) rfl (XS.iloadN W0.here W0.hx rfl (hb hby dc22_1) rfl q9_)) ?_
  by_cases h1 : ff < tt
  · refine Go.by (fun t9_ q9_ => XS.icmpNo W0.here W0.hx rfl (hb hby dc22_2) rfl (tlt h1).2.1 q9_) ?_
    refine Go.by (fun t9_ q9_ => XS.iloadN W0.here W0.hx rfl (hb hby dc22_5) rfl (XS.aloadN W0.here W0.hx rfl (hb hby dc22_6) rfl rfl q9_)) ?_
    show Go _ _ _ _ _ _ _ _ _ (T0.setTop (mkF m 7 #[.val (.ref r), .val (.int ff), .val (.int tt), .unset, .unset] [(.ref r), (.int tt)]))
    refine W0.strLen (k_len hw) (wd9 hw) (wd65 hw) (wd66 hw) (wd68 hw) (wd67 hw) SR (by simp) (SG1.ext W0.old) hG (by decide) (Wt := 1) (by decide) (by rw [hml]; rfl) (Nat.le_of_eq rfl) (by decide) (by decide) (hb hby dc22_7) ?_
    intro T977 W978
    by_cases h2 : (3 : Int32) < tt
    · refine Go.by (fun t9_ q9_ => XS.icmpNo W978.here W978.hx rfl (hb hby dc22_10) rfl (tlt h2).2.2.2 q9_) ?_
      refine Go.by (fun t9_ q9_ => XS.iconst W978.here W978.hx rfl (hb hby dc22_13) q9_) ?_
      show Go _ _ _ _ _ _ _ _ _ (T977.setTop (mkF m 14 #[.val (.ref r), .val (.int ff), .val (.int tt), .unset, .unset] [(.int (0 : Int32))]))
      exact W978.retN (z' := (0 : Int32)) (by decide) (by decide) hret (by simp) (hb hby dc22_14) rfl ⟨by unfold res3; rw [if_pos h1, if_pos h2], rfl⟩
    · refine Go.by (fun t9_ q9_ => XS.icmpYes W978.here W978.hx rfl (pc0 := 10) (pc' := 15) rfl (hb hby dc22_10) rfl (flt h2).2.2.2 (by decide) (by decide) q9_) ?_
      have hf := ffc3 hff h1 h2
      refine Go.by (fun t9_ q9_ => XS.iloadN W978.here W978.hx rfl (hb hby dc22_15) rfl (XS.istoreN W978.here W978.hx rfl (hb hby dc22_16) rfl (l' := #[.val (.ref r), .val (.int ff), .val (.int tt), .val (.int ff), .unset]) rfl q9_)) ?_
      have J3 : ∀ (T979 : State) (x4 : Slot), Wk p l e (⟨5, 0, 0, 80⟩ : Room) s m #[(.ref r), (.int ff), (.int tt)] below meth c Z a0 [("java/lang/String", 7)] "com/example/kontraktbuch/kontraktbuch/Notation" [] T979 h0 0 0 → (x4 = .unset ∨ ∃ z : Int32, x4 = .val (.int z)) → (res3 c0 c1 c2 ff tt) = (1 : Int32) → Go p e below s Z [("java/lang/String", 7)] (⟨5, 0, 0, 80⟩ : Room).cells (⟨5, 0, 0, 80⟩ : Room).slots (fun v h' => v = some (.int (res3 c0 c1 c2 ff tt)) ∧ h' = h0) (T979.setTop (mkF m 17 #[.val (.ref r), .val (.int ff), .val (.int tt), .val (.int (3 : Int32)), x4] [])) := by
        intro T979 x4 W980 hx4 hq
        refine Go.by (fun t9_ q9_ => XS.iloadN W980.here W980.hx rfl (hb hby dc22_17) rfl (XS.iloadN W980.here W980.hx rfl (hb hby dc22_18) rfl q9_)) ?_
        refine Go.by (fun t9_ q9_ => XS.icmpYes W980.here W980.hx rfl (pc0 := 19) (pc' := 51) rfl (hb hby dc22_19) rfl (flt h2).2.1 (by decide) (by decide) q9_) ?_
        refine Go.by (fun t9_ q9_ => XS.iconst W980.here W980.hx rfl (hb hby dc22_51) q9_) ?_
        show Go _ _ _ _ _ _ _ _ _ (T979.setTop (mkF m 52 #[.val (.ref r), .val (.int ff), .val (.int tt), .val (.int (3 : Int32)), x4] [(.int (1 : Int32))]))
        exact W980.retN (z' := (1 : Int32)) (by decide) (by decide) hret (by simp) (hb hby dc22_52) rfl ⟨by rw [hq], rfl⟩
      have J2 : ∀ (T981 : State) (x4 : Slot), Wk p l e (⟨5, 0, 0, 80⟩ : Room) s m #[(.ref r), (.int ff), (.int tt)] below meth c Z a0 [("java/lang/String", 7)] "com/example/kontraktbuch/kontraktbuch/Notation" [] T981 h0 0 0 → (x4 = .unset ∨ ∃ z : Int32, x4 = .val (.int z)) → (res3 c0 c1 c2 ff tt) = (if (2 : Int32) < tt then (if c2 < (48 : Int32) then (0 : Int32) else if (57 : Int32) < c2 then 0 else (1 : Int32)) else 1) → Go p e below s Z [("java/lang/String", 7)] (⟨5, 0, 0, 80⟩ : Room).cells (⟨5, 0, 0, 80⟩ : Room).slots (fun v h' => v = some (.int (res3 c0 c1 c2 ff tt)) ∧ h' = h0) (T981.setTop (mkF m 17 #[.val (.ref r), .val (.int ff), .val (.int tt), .val (.int (2 : Int32)), x4] [])) := by
        intro T981 x4 W982 hx4 hq
        refine Go.by (fun t9_ q9_ => XS.iloadN W982.here W982.hx rfl (hb hby dc22_17) rfl (XS.iloadN W982.here W982.hx rfl (hb hby dc22_18) rfl q9_)) ?_
        by_cases g_ : (2 : Int32) < tt
        · refine Go.by (fun t9_ q9_ => XS.icmpNo W982.here W982.hx rfl (hb hby dc22_19) rfl (tlt g_).2.1 q9_) ?_
          refine Go.by (fun t9_ q9_ => XS.aloadN W982.here W982.hx rfl (hb hby dc22_22) rfl rfl (XS.iloadN W982.here W982.hx rfl (hb hby dc22_23) rfl q9_)) ?_
          show Go _ _ _ _ _ _ _ _ _ (T981.setTop (mkF m 24 #[.val (.ref r), .val (.int ff), .val (.int tt), .val (.int (2 : Int32)), x4] [(.int (2 : Int32)), (.ref r)]))
          refine W982.callVp (y := (⟨"java/lang/String", "charAt", "(I)C"⟩ : MethodName)) (z := (⟨"java/lang/String", "charAt", "(I)C"⟩ : MethodName)) (wd81 hw) (wd82 hw) (nf_sel rfl (wd84 hw)) (wd84 hw) (wd83 hw) (wd10 hw) (wd85 hw) (by decide) SR.exa (a := r) (c_ca3_2 l Z a0 hw hEL h0 hE0 r c0 c1 c2 G1 fm SG1 hG PSH SFM rfm SR) all0 (by decide) (by decide) (k' := 0) (n' := 0) rfl rfl (by decide) (by decide) (by rw [hml]; rfl) (argsL := [(.int (2 : Int32))]) (rest := []) (lenOf pd_15 rfl) rfl rfl (Wt := 0) (Nat.le_of_eq rfl) (hb hby dc22_24) ?_
          intro T983 W984
          refine Go.by (fun t9_ q9_ => XS.istore W984.here W984.hx rfl (hb hby dc22_27) rfl (l' := #[.val (.ref r), .val (.int ff), .val (.int tt), .val (.int (2 : Int32)), .val (.int c2)]) (by rcases hx4 with h_ | ⟨z_, h_⟩ <;> rw [h_] <;> rfl) (XS.iload W984.here W984.hx rfl (hb hby dc22_29) rfl (XS.bipush W984.here W984.hx rfl (hb hby dc22_31) q9_))) ?_
          by_cases d1 : c2 < (48 : Int32)
          · refine Go.by (fun t9_ q9_ => XS.icmpYes W984.here W984.hx rfl (pc0 := 33) (pc' := 43) rfl (hb hby dc22_33) rfl (tlt d1).1 (by decide) (by decide) q9_) ?_
            refine Go.by (fun t9_ q9_ => XS.iconst W984.here W984.hx rfl (hb hby dc22_43) q9_) ?_
            show Go _ _ _ _ _ _ _ _ _ (T983.setTop (mkF m 44 #[.val (.ref r), .val (.int ff), .val (.int tt), .val (.int (2 : Int32)), .val (.int c2)] [(.int (0 : Int32))]))
            exact W984.retN (z' := (0 : Int32)) (by decide) (by decide) hret (by simp) (hb hby dc22_44) rfl ⟨by rw [hq, if_pos g_, if_pos d1], rfl⟩
          · refine Go.by (fun t9_ q9_ => XS.icmpNo W984.here W984.hx rfl (hb hby dc22_33) rfl (flt d1).1 q9_) ?_
            refine Go.by (fun t9_ q9_ => XS.iload W984.here W984.hx rfl (hb hby dc22_36) rfl (XS.bipush W984.here W984.hx rfl (hb hby dc22_38) q9_)) ?_
            by_cases d2 : (57 : Int32) < c2
            · refine Go.by (fun t9_ q9_ => XS.icmpNo W984.here W984.hx rfl (hb hby dc22_40) rfl (tlt d2).2.2.2 q9_) ?_
              refine Go.by (fun t9_ q9_ => XS.iconst W984.here W984.hx rfl (hb hby dc22_43) q9_) ?_
              show Go _ _ _ _ _ _ _ _ _ (T983.setTop (mkF m 44 #[.val (.ref r), .val (.int ff), .val (.int tt), .val (.int (2 : Int32)), .val (.int c2)] [(.int (0 : Int32))]))
              exact W984.retN (z' := (0 : Int32)) (by decide) (by decide) hret (by simp) (hb hby dc22_44) rfl ⟨by rw [hq, if_pos g_, if_neg d1, if_pos d2], rfl⟩
            · refine Go.by (fun t9_ q9_ => XS.icmpYes W984.here W984.hx rfl (pc0 := 40) (pc' := 45) rfl (hb hby dc22_40) rfl (flt d2).2.2.2 (by decide) (by decide) q9_) ?_
              refine Go.by (fun t9_ q9_ => XS.iinc W984.here W984.hx rfl (hb hby dc22_45) rfl (l' := #[.val (.ref r), .val (.int ff), .val (.int tt), .val (.int ((2 : Int32) + (1 : Int32))), .val (.int c2)]) rfl q9_) ?_
              show Go _ _ _ _ _ _ _ _ _ (T983.setTop (mkF m 48 #[.val (.ref r), .val (.int ff), .val (.int tt), .val (.int (3 : Int32)), .val (.int c2)] []))
              refine Go.by (fun t9_ q9_ => XS.goto W984.here W984.hx rfl (pc0 := 48) (pc' := 17) rfl (hb hby dc22_48) (by decide) (by decide) q9_) ?_
              exact J3 _ _ W984 (Or.inr ⟨_, rfl⟩) (by rw [hq, if_pos g_, if_neg d1, if_neg d2])
        · refine Go.by (fun t9_ q9_ => XS.icmpYes W982.here W982.hx rfl (pc0 := 19) (pc' := 51) rfl (hb hby dc22_19) rfl (flt g_).2.1 (by decide) (by decide) q9_) ?_
          refine Go.by (fun t9_ q9_ => XS.iconst W982.here W982.hx rfl (hb hby dc22_51) q9_) ?_
          show Go _ _ _ _ _ _ _ _ _ (T981.setTop (mkF m 52 #[.val (.ref r), .val (.int ff), .val (.int tt), .val (.int (2 : Int32)), x4] [(.int (1 : Int32))]))
          exact W982.retN (z' := (1 : Int32)) (by decide) (by decide) hret (by simp) (hb hby dc22_52) rfl ⟨by rw [hq, if_neg g_], rfl⟩
      have J1 : ∀ (T985 : State) (x4 : Slot), Wk p l e (⟨5, 0, 0, 80⟩ : Room) s m #[(.ref r), (.int ff), (.int tt)] below meth c Z a0 [("java/lang/String", 7)] "com/example/kontraktbuch/kontraktbuch/Notation" [] T985 h0 0 0 → (x4 = .unset ∨ ∃ z : Int32, x4 = .val (.int z)) → (res3 c0 c1 c2 ff tt) = (if (1 : Int32) < tt then (if c1 < (48 : Int32) then (0 : Int32) else if (57 : Int32) < c1 then 0 else (if (2 : Int32) < tt then (if c2 < (48 : Int32) then (0 : Int32) else if (57 : Int32) < c2 then 0 else (1 : Int32)) else 1)) else 1) → Go p e below s Z [("java/lang/String", 7)] (⟨5, 0, 0, 80⟩ : Room).cells (⟨5, 0, 0, 80⟩ : Room).slots (fun v h' => v = some (.int (res3 c0 c1 c2 ff tt)) ∧ h' = h0) (T985.setTop (mkF m 17 #[.val (.ref r), .val (.int ff), .val (.int tt), .val (.int (1 : Int32)), x4] [])) := by
        intro T985 x4 W986 hx4 hq
        refine Go.by (fun t9_ q9_ => XS.iloadN W986.here W986.hx rfl (hb hby dc22_17) rfl (XS.iloadN W986.here W986.hx rfl (hb hby dc22_18) rfl q9_)) ?_
        by_cases g_ : (1 : Int32) < tt
        · refine Go.by (fun t9_ q9_ => XS.icmpNo W986.here W986.hx rfl (hb hby dc22_19) rfl (tlt g_).2.1 q9_) ?_
          refine Go.by (fun t9_ q9_ => XS.aloadN W986.here W986.hx rfl (hb hby dc22_22) rfl rfl (XS.iloadN W986.here W986.hx rfl (hb hby dc22_23) rfl q9_)) ?_
          show Go _ _ _ _ _ _ _ _ _ (T985.setTop (mkF m 24 #[.val (.ref r), .val (.int ff), .val (.int tt), .val (.int (1 : Int32)), x4] [(.int (1 : Int32)), (.ref r)]))
          refine W986.callVp (y := (⟨"java/lang/String", "charAt", "(I)C"⟩ : MethodName)) (z := (⟨"java/lang/String", "charAt", "(I)C"⟩ : MethodName)) (wd81 hw) (wd82 hw) (nf_sel rfl (wd84 hw)) (wd84 hw) (wd83 hw) (wd10 hw) (wd85 hw) (by decide) SR.exa (a := r) (c_ca3_1 l Z a0 hw hEL h0 hE0 r c0 c1 c2 G1 fm SG1 hG PSH SFM rfm SR) all0 (by decide) (by decide) (k' := 0) (n' := 0) rfl rfl (by decide) (by decide) (by rw [hml]; rfl) (argsL := [(.int (1 : Int32))]) (rest := []) (lenOf pd_15 rfl) rfl rfl (Wt := 0) (Nat.le_of_eq rfl) (hb hby dc22_24) ?_
          intro T987 W988
          refine Go.by (fun t9_ q9_ => XS.istore W988.here W988.hx rfl (hb hby dc22_27) rfl (l' := #[.val (.ref r), .val (.int ff), .val (.int tt), .val (.int (1 : Int32)), .val (.int c1)]) (by rcases hx4 with h_ | ⟨z_, h_⟩ <;> rw [h_] <;> rfl) (XS.iload W988.here W988.hx rfl (hb hby dc22_29) rfl (XS.bipush W988.here W988.hx rfl (hb hby dc22_31) q9_))) ?_
          by_cases d1 : c1 < (48 : Int32)
          · refine Go.by (fun t9_ q9_ => XS.icmpYes W988.here W988.hx rfl (pc0 := 33) (pc' := 43) rfl (hb hby dc22_33) rfl (tlt d1).1 (by decide) (by decide) q9_) ?_
            refine Go.by (fun t9_ q9_ => XS.iconst W988.here W988.hx rfl (hb hby dc22_43) q9_) ?_
            show Go _ _ _ _ _ _ _ _ _ (T987.setTop (mkF m 44 #[.val (.ref r), .val (.int ff), .val (.int tt), .val (.int (1 : Int32)), .val (.int c1)] [(.int (0 : Int32))]))
            exact W988.retN (z' := (0 : Int32)) (by decide) (by decide) hret (by simp) (hb hby dc22_44) rfl ⟨by rw [hq, if_pos g_, if_pos d1], rfl⟩
          · refine Go.by (fun t9_ q9_ => XS.icmpNo W988.here W988.hx rfl (hb hby dc22_33) rfl (flt d1).1 q9_) ?_
            refine Go.by (fun t9_ q9_ => XS.iload W988.here W988.hx rfl (hb hby dc22_36) rfl (XS.bipush W988.here W988.hx rfl (hb hby dc22_38) q9_)) ?_
            by_cases d2 : (57 : Int32) < c1
            · refine Go.by (fun t9_ q9_ => XS.icmpNo W988.here W988.hx rfl (hb hby dc22_40) rfl (tlt d2).2.2.2 q9_) ?_
              refine Go.by (fun t9_ q9_ => XS.iconst W988.here W988.hx rfl (hb hby dc22_43) q9_) ?_
              show Go _ _ _ _ _ _ _ _ _ (T987.setTop (mkF m 44 #[.val (.ref r), .val (.int ff), .val (.int tt), .val (.int (1 : Int32)), .val (.int c1)] [(.int (0 : Int32))]))
              exact W988.retN (z' := (0 : Int32)) (by decide) (by decide) hret (by simp) (hb hby dc22_44) rfl ⟨by rw [hq, if_pos g_, if_neg d1, if_pos d2], rfl⟩
            · refine Go.by (fun t9_ q9_ => XS.icmpYes W988.here W988.hx rfl (pc0 := 40) (pc' := 45) rfl (hb hby dc22_40) rfl (flt d2).2.2.2 (by decide) (by decide) q9_) ?_
              refine Go.by (fun t9_ q9_ => XS.iinc W988.here W988.hx rfl (hb hby dc22_45) rfl (l' := #[.val (.ref r), .val (.int ff), .val (.int tt), .val (.int ((1 : Int32) + (1 : Int32))), .val (.int c1)]) rfl q9_) ?_
              show Go _ _ _ _ _ _ _ _ _ (T987.setTop (mkF m 48 #[.val (.ref r), .val (.int ff), .val (.int tt), .val (.int (2 : Int32)), .val (.int c1)] []))
              refine Go.by (fun t9_ q9_ => XS.goto W988.here W988.hx rfl (pc0 := 48) (pc' := 17) rfl (hb hby dc22_48) (by decide) (by decide) q9_) ?_
              exact J2 _ _ W988 (Or.inr ⟨_, rfl⟩) (by rw [hq, if_pos g_, if_neg d1, if_neg d2])
        · refine Go.by (fun t9_ q9_ => XS.icmpYes W986.here W986.hx rfl (pc0 := 19) (pc' := 51) rfl (hb hby dc22_19) rfl (flt g_).2.1 (by decide) (by decide) q9_) ?_
          refine Go.by (fun t9_ q9_ => XS.iconst W986.here W986.hx rfl (hb hby dc22_51) q9_) ?_
          show Go _ _ _ _ _ _ _ _ _ (T985.setTop (mkF m 52 #[.val (.ref r), .val (.int ff), .val (.int tt), .val (.int (1 : Int32)), x4] [(.int (1 : Int32))]))
          exact W986.retN (z' := (1 : Int32)) (by decide) (by decide) hret (by simp) (hb hby dc22_52) rfl ⟨by rw [hq, if_neg g_], rfl⟩
      have J0 : ∀ (T989 : State) (x4 : Slot), Wk p l e (⟨5, 0, 0, 80⟩ : Room) s m #[(.ref r), (.int ff), (.int tt)] below meth c Z a0 [("java/lang/String", 7)] "com/example/kontraktbuch/kontraktbuch/Notation" [] T989 h0 0 0 → (x4 = .unset ∨ ∃ z : Int32, x4 = .val (.int z)) → (res3 c0 c1 c2 ff tt) = (if (0 : Int32) < tt then (if c0 < (48 : Int32) then (0 : Int32) else if (57 : Int32) < c0 then 0 else (if (1 : Int32) < tt then (if c1 < (48 : Int32) then (0 : Int32) else if (57 : Int32) < c1 then 0 else (if (2 : Int32) < tt then (if c2 < (48 : Int32) then (0 : Int32) else if (57 : Int32) < c2 then 0 else (1 : Int32)) else 1)) else 1)) else 1) → Go p e below s Z [("java/lang/String", 7)] (⟨5, 0, 0, 80⟩ : Room).cells (⟨5, 0, 0, 80⟩ : Room).slots (fun v h' => v = some (.int (res3 c0 c1 c2 ff tt)) ∧ h' = h0) (T989.setTop (mkF m 17 #[.val (.ref r), .val (.int ff), .val (.int tt), .val (.int (0 : Int32)), x4] [])) := by
        intro T989 x4 W990 hx4 hq
        refine Go.by (fun t9_ q9_ => XS.iloadN W990.here W990.hx rfl (hb hby dc22_17) rfl (XS.iloadN W990.here W990.hx rfl (hb hby dc22_18) rfl q9_)) ?_
        by_cases g_ : (0 : Int32) < tt
        · refine Go.by (fun t9_ q9_ => XS.icmpNo W990.here W990.hx rfl (hb hby dc22_19) rfl (tlt g_).2.1 q9_) ?_
          refine Go.by (fun t9_ q9_ => XS.aloadN W990.here W990.hx rfl (hb hby dc22_22) rfl rfl (XS.iloadN W990.here W990.hx rfl (hb hby dc22_23) rfl q9_)) ?_
          show Go _ _ _ _ _ _ _ _ _ (T989.setTop (mkF m 24 #[.val (.ref r), .val (.int ff), .val (.int tt), .val (.int (0 : Int32)), x4] [(.int (0 : Int32)), (.ref r)]))
          refine W990.callVp (y := (⟨"java/lang/String", "charAt", "(I)C"⟩ : MethodName)) (z := (⟨"java/lang/String", "charAt", "(I)C"⟩ : MethodName)) (wd81 hw) (wd82 hw) (nf_sel rfl (wd84 hw)) (wd84 hw) (wd83 hw) (wd10 hw) (wd85 hw) (by decide) SR.exa (a := r) (c_ca3_0 l Z a0 hw hEL h0 hE0 r c0 c1 c2 G1 fm SG1 hG PSH SFM rfm SR) all0 (by decide) (by decide) (k' := 0) (n' := 0) rfl rfl (by decide) (by decide) (by rw [hml]; rfl) (argsL := [(.int (0 : Int32))]) (rest := []) (lenOf pd_15 rfl) rfl rfl (Wt := 0) (Nat.le_of_eq rfl) (hb hby dc22_24) ?_
          intro T991 W992
          refine Go.by (fun t9_ q9_ => XS.istore W992.here W992.hx rfl (hb hby dc22_27) rfl (l' := #[.val (.ref r), .val (.int ff), .val (.int tt), .val (.int (0 : Int32)), .val (.int c0)]) (by rcases hx4 with h_ | ⟨z_, h_⟩ <;> rw [h_] <;> rfl) (XS.iload W992.here W992.hx rfl (hb hby dc22_29) rfl (XS.bipush W992.here W992.hx rfl (hb hby dc22_31) q9_))) ?_
          by_cases d1 : c0 < (48 : Int32)
          · refine Go.by (fun t9_ q9_ => XS.icmpYes W992.here W992.hx rfl (pc0 := 33) (pc' := 43) rfl (hb hby dc22_33) rfl (tlt d1).1 (by decide) (by decide) q9_) ?_
            refine Go.by (fun t9_ q9_ => XS.iconst W992.here W992.hx rfl (hb hby dc22_43) q9_) ?_
            show Go _ _ _ _ _ _ _ _ _ (T991.setTop (mkF m 44 #[.val (.ref r), .val (.int ff), .val (.int tt), .val (.int (0 : Int32)), .val (.int c0)] [(.int (0 : Int32))]))
            exact W992.retN (z' := (0 : Int32)) (by decide) (by decide) hret (by simp) (hb hby dc22_44) rfl ⟨by rw [hq, if_pos g_, if_pos d1], rfl⟩
          · refine Go.by (fun t9_ q9_ => XS.icmpNo W992.here W992.hx rfl (hb hby dc22_33) rfl (flt d1).1 q9_) ?_
            refine Go.by (fun t9_ q9_ => XS.iload W992.here W992.hx rfl (hb hby dc22_36) rfl (XS.bipush W992.here W992.hx rfl (hb hby dc22_38) q9_)) ?_
            by_cases d2 : (57 : Int32) < c0
            · refine Go.by (fun t9_ q9_ => XS.icmpNo W992.here W992.hx rfl (hb hby dc22_40) rfl (tlt d2).2.2.2 q9_) ?_
              refine Go.by (fun t9_ q9_ => XS.iconst W992.here W992.hx rfl (hb hby dc22_43) q9_) ?_
              show Go _ _ _ _ _ _ _ _ _ (T991.setTop (mkF m 44 #[.val (.ref r), .val (.int ff), .val (.int tt), .val (.int (0 : Int32)), .val (.int c0)] [(.int (0 : Int32))]))
              exact W992.retN (z' := (0 : Int32)) (by decide) (by decide) hret (by simp) (hb hby dc22_44) rfl ⟨by rw [hq, if_pos g_, if_neg d1, if_pos d2], rfl⟩
            · refine Go.by (fun t9_ q9_ => XS.icmpYes W992.here W992.hx rfl (pc0 := 40) (pc' := 45) rfl (hb hby dc22_40) rfl (flt d2).2.2.2 (by decide) (by decide) q9_) ?_
              refine Go.by (fun t9_ q9_ => XS.iinc W992.here W992.hx rfl (hb hby dc22_45) rfl (l' := #[.val (.ref r), .val (.int ff), .val (.int tt), .val (.int ((0 : Int32) + (1 : Int32))), .val (.int c0)]) rfl q9_) ?_
              show Go _ _ _ _ _ _ _ _ _ (T991.setTop (mkF m 48 #[.val (.ref r), .val (.int ff), .val (.int tt), .val (.int (1 : Int32)), .val (.int c0)] []))
              refine Go.by (fun t9_ q9_ => XS.goto W992.here W992.hx rfl (pc0 := 48) (pc' := 17) rfl (hb hby dc22_48) (by decide) (by decide) q9_) ?_
              exact J1 _ _ W992 (Or.inr ⟨_, rfl⟩) (by rw [hq, if_pos g_, if_neg d1, if_neg d2])
        · refine Go.by (fun t9_ q9_ => XS.icmpYes W990.here W990.hx rfl (pc0 := 19) (pc' := 51) rfl (hb hby dc22_19) rfl (flt g_).2.1 (by decide) (by decide) q9_) ?_
          refine Go.by (fun t9_ q9_ => XS.iconst W990.here W990.hx rfl (hb hby dc22_51) q9_) ?_
          show Go _ _ _ _ _ _ _ _ _ (T989.setTop (mkF m 52 #[.val (.ref r), .val (.int ff), .val (.int tt), .val (.int (0 : Int32)), x4] [(.int (1 : Int32))]))
          exact W990.retN (z' := (1 : Int32)) (by decide) (by decide) hret (by simp) (hb hby dc22_52) rfl ⟨by rw [hq, if_neg g_], rfl⟩
      rcases hf with rfl | rfl | rfl
      · exact J0 _ _ W978 (Or.inl rfl) (by unfold res3; rw [if_pos h1, if_neg h2, if_pos rfl])
      · exact J1 _ _ W978 (Or.inl rfl) (by unfold res3; rw [if_pos h1, if_neg h2, if_neg (by decide), if_pos rfl])
      · exact J2 _ _ W978 (Or.inl rfl) (by unfold res3; rw [if_pos h1, if_neg h2, if_neg (by decide), if_neg (by decide), if_pos rfl])
  · refine Go.by (fun t9_ q9_ => XS.icmpYes W0.here W0.hx rfl (pc0 := 2) (pc' := 13) rfl (hb hby dc22_2) rfl (flt h1).2.1 (by decide) (by decide) q9_) ?_
    refine Go.by (fun t9_ q9_ => XS.iconst W0.here W0.hx rfl (hb hby dc22_13) q9_) ?_
    show Go _ _ _ _ _ _ _ _ _ (T0.setTop (mkF m 14 #[.val (.ref r), .val (.int ff), .val (.int tt), .unset, .unset] [(.int (0 : Int32))]))
    exact W0.retN (z' := (0 : Int32)) (by decide) (by decide) hret (by simp) (hb hby dc22_14) rfl ⟨by unfold res3; rw [if_neg h1], rfl⟩
theorem c_isd4 (l : Launch) (Z : State) (a0 : Array Value) (hw : HW Z a0) (hEL : EW Z a0 [("java/lang/String", 7)]) (h0 : Heap) (hE0 : Ext Z.heap h0) (r : Addr) (c0 c1 c2 c3 ff tt G1 : Int32) (fm : Value) (PSH : PS3 Z) (SG1 : Sta Z Z.heap "java/lang/String" "COMPACT_STRINGS" "Z" (.int G1)) (hG : ¬ G1 = 0) (SFM : Sta Z Z.heap "jdk/internal/util/Preconditions" "SIOOBE_FORMATTER" "Ljava/util/function/BiFunction;" fm) (rfm : fm.isRef = true) (SR : Str Z h0 r [c0, c1, c2, c3]) (hff : ¬ ff < 0) :
    Con l Z [("java/lang/String", 7)] [] (⟨"com/example/kontraktbuch/kontraktbuch/Notation", "isDigits", "(Ljava/lang/String;II)Z"⟩ : MethodName) prog_29_method_10_code 5 (some .boolean) [] (⟨5, 0, 0, 80⟩ : Room) #[(.ref r), (.int ff), (.int tt)] h0 (fun v h' => v = some (.int (res4 c0 c1 c2 c3 ff tt)) ∧ h' = h0) := by
  refine Con.mk (plainFor_of_name pn_5) hEL hE0 (fun x hx => by cases hx) ?_
  intro p e s m below meth c T0 hby hml hret hnm W0
  rw [(show entryFrame m #[(.ref r), (.int ff), (.int tt)] 5 = mkF m 0 #[.val (.ref r), .val (.int ff), .val (.int tt), .unset, .unset] [] from by first | (simp [entryFrame, mkF, argsToLocals, Value.category]; done) | rfl)]
  refine Go.by (fun t9_ q9_ => XS.iloadN W0.here W0.hx rfl (hb hby dc22_0) rfl (XS.iloadN W0.here W0.hx rfl (hb hby dc22_1) rfl q9_)) ?_
  by_cases h1 : ff < tt
  · refine Go.by (fun t9_ q9_ => XS.icmpNo W0.here W0.hx rfl (hb hby dc22_2) rfl (tlt h1).2.1 q9_) ?_
    refine Go.by (fun t9_ q9_ => XS.iloadN W0.here W0.hx rfl (hb hby dc22_5) rfl (XS.aloadN W0.here W0.hx rfl (hb hby dc22_6) rfl rfl q9_)) ?_
    show Go _ _ _ _ _ _ _ _ _ (T0.setTop (mkF m 7 #[.val (.ref r), .val (.int ff), .val (.int tt), .unset, .unset] [(.ref r), (.int tt)]))
    refine W0.strLen (k_len hw) (wd9 hw) (wd65 hw) (wd66 hw) (wd68 hw) (wd67 hw) SR (by simp) (SG1.ext W0.old) hG (by decide) (Wt := 1) (by decide) (by rw [hml]; rfl) (Nat.le_of_eq rfl) (by decide) (by decide) (hb hby dc22_7) ?_
    intro T993 W994
    by_cases h2 : (4 : Int32) < tt
    · refine Go.by (fun t9_ q9_ => XS.icmpNo W994.here W994.hx rfl (hb hby dc22_10) rfl (tlt h2).2.2.2 q9_) ?_
      refine Go.by (fun t9_ q9_ => XS.iconst W994.here W994.hx rfl (hb hby dc22_13) q9_) ?_
      show Go _ _ _ _ _ _ _ _ _ (T993.setTop (mkF m 14 #[.val (.ref r), .val (.int ff), .val (.int tt), .unset, .unset] [(.int (0 : Int32))]))
      exact W994.retN (z' := (0 : Int32)) (by decide) (by decide) hret (by simp) (hb hby dc22_14) rfl ⟨by unfold res4; rw [if_pos h1, if_pos h2], rfl⟩
    · refine Go.by (fun t9_ q9_ => XS.icmpYes W994.here W994.hx rfl (pc0 := 10) (pc' := 15) rfl (hb hby dc22_10) rfl (flt h2).2.2.2 (by decide) (by decide) q9_) ?_
      have hf := ffc4 hff h1 h2
      refine Go.by (fun t9_ q9_ => XS.iloadN W994.here W994.hx rfl (hb hby dc22_15) rfl (XS.istoreN W994.here W994.hx rfl (hb hby dc22_16) rfl (l' := #[.val (.ref r), .val (.int ff), .val (.int tt), .val (.int ff), .unset]) rfl q9_)) ?_
      have J4 : ∀ (T995 : State) (x4 : Slot), Wk p l e (⟨5, 0, 0, 80⟩ : Room) s m #[(.ref r), (.int ff), (.int tt)] below meth c Z a0 [("java/lang/String", 7)] "com/example/kontraktbuch/kontraktbuch/Notation" [] T995 h0 0 0 → (x4 = .unset ∨ ∃ z : Int32, x4 = .val (.int z)) → (res4 c0 c1 c2 c3 ff tt) = (1 : Int32) → Go p e below s Z [("java/lang/String", 7)] (⟨5, 0, 0, 80⟩ : Room).cells (⟨5, 0, 0, 80⟩ : Room).slots (fun v h' => v = some (.int (res4 c0 c1 c2 c3 ff tt)) ∧ h' = h0) (T995.setTop (mkF m 17 #[.val (.ref r), .val (.int ff), .val (.int tt), .val (.int (4 : Int32)), x4] [])) := by
        intro T995 x4 W996 hx4 hq
        refine Go.by (fun t9_ q9_ => XS.iloadN W996.here W996.hx rfl (hb hby dc22_17) rfl (XS.iloadN W996.here W996.hx rfl (hb hby dc22_18) rfl q9_)) ?_
        refine Go.by (fun t9_ q9_ => XS.icmpYes W996.here W996.hx rfl (pc0 := 19) (pc' := 51) rfl (hb hby dc22_19) rfl (flt h2).2.1 (by decide) (by decide) q9_) ?_
        refine Go.by (fun t9_ q9_ => XS.iconst W996.here W996.hx rfl (hb hby dc22_51) q9_) ?_
        show Go _ _ _ _ _ _ _ _ _ (T995.setTop (mkF m 52 #[.val (.ref r), .val (.int ff), .val (.int tt), .val (.int (4 : Int32)), x4] [(.int (1 : Int32))]))
        exact W996.retN (z' := (1 : Int32)) (by decide) (by decide) hret (by simp) (hb hby dc22_52) rfl ⟨by rw [hq], rfl⟩
      have J3 : ∀ (T997 : State) (x4 : Slot), Wk p l e (⟨5, 0, 0, 80⟩ : Room) s m #[(.ref r), (.int ff), (.int tt)] below meth c Z a0 [("java/lang/String", 7)] "com/example/kontraktbuch/kontraktbuch/Notation" [] T997 h0 0 0 → (x4 = .unset ∨ ∃ z : Int32, x4 = .val (.int z)) → (res4 c0 c1 c2 c3 ff tt) = (if (3 : Int32) < tt then (if c3 < (48 : Int32) then (0 : Int32) else if (57 : Int32) < c3 then 0 else (1 : Int32)) else 1) → Go p e below s Z [("java/lang/String", 7)] (⟨5, 0, 0, 80⟩ : Room).cells (⟨5, 0, 0, 80⟩ : Room).slots (fun v h' => v = some (.int (res4 c0 c1 c2 c3 ff tt)) ∧ h' = h0) (T997.setTop (mkF m 17 #[.val (.ref r), .val (.int ff), .val (.int tt), .val (.int (3 : Int32)), x4] [])) := by
        intro T997 x4 W998 hx4 hq
        refine Go.by (fun t9_ q9_ => XS.iloadN W998.here W998.hx rfl (hb hby dc22_17) rfl (XS.iloadN W998.here W998.hx rfl (hb hby dc22_18) rfl q9_)) ?_
        by_cases g_ : (3 : Int32) < tt
        · refine Go.by (fun t9_ q9_ => XS.icmpNo W998.here W998.hx rfl (hb hby dc22_19) rfl (tlt g_).2.1 q9_) ?_
          refine Go.by (fun t9_ q9_ => XS.aloadN W998.here W998.hx rfl (hb hby dc22_22) rfl rfl (XS.iloadN W998.here W998.hx rfl (hb hby dc22_23) rfl q9_)) ?_
          show Go _ _ _ _ _ _ _ _ _ (T997.setTop (mkF m 24 #[.val (.ref r), .val (.int ff), .val (.int tt), .val (.int (3 : Int32)), x4] [(.int (3 : Int32)), (.ref r)]))
          refine W998.callVp (y := (⟨"java/lang/String", "charAt", "(I)C"⟩ : MethodName)) (z := (⟨"java/lang/String", "charAt", "(I)C"⟩ : MethodName)) (wd81 hw) (wd82 hw) (nf_sel rfl (wd84 hw)) (wd84 hw) (wd83 hw) (wd10 hw) (wd85 hw) (by decide) SR.exa (a := r) (c_ca4_3 l Z a0 hw hEL h0 hE0 r c0 c1 c2 c3 G1 fm SG1 hG PSH SFM rfm SR) all0 (by decide) (by decide) (k' := 0) (n' := 0) rfl rfl (by decide) (by decide) (by rw [hml]; rfl) (argsL := [(.int (3 : Int32))]) (rest := []) (lenOf pd_15 rfl) rfl rfl (Wt := 0) (Nat.le_of_eq rfl) (hb hby dc22_24) ?_
          intro T999 W1000
          refine Go.by (fun t9_ q9_ => XS.istore W1000.here W1000.hx rfl (hb hby dc22_27) rfl (l' := #[.val (.ref r), .val (.int ff), .val (.int tt), .val (.int (3 : Int32)), .val (.int c3)]) (by rcases hx4 with h_ | ⟨z_, h_⟩ <;> rw [h_] <;> rfl) (XS.iload W1000.here W1000.hx rfl (hb hby dc22_29) rfl (XS.bipush W1000.here W1000.hx rfl (hb hby dc22_31) q9_))) ?_
          by_cases d1 : c3 < (48 : Int32)
          · refine Go.by (fun t9_ q9_ => XS.icmpYes W1000.here W1000.hx rfl (pc0 := 33) (pc' := 43) rfl (hb hby dc22_33) rfl (tlt d1).1 (by decide) (by decide) q9_) ?_
            refine Go.by (fun t9_ q9_ => XS.iconst W1000.here W1000.hx rfl (hb hby dc22_43) q9_) ?_
            show Go _ _ _ _ _ _ _ _ _ (T999.setTop (mkF m 44 #[.val (.ref r), .val (.int ff), .val (.int tt), .val (.int (3 : Int32)), .val (.int c3)] [(.int (0 : Int32))]))
            exact W1000.retN (z' := (0 : Int32)) (by decide) (by decide) hret (by simp) (hb hby dc22_44) rfl ⟨by rw [hq, if_pos g_, if_pos d1], rfl⟩
          · refine Go.by (fun t9_ q9_ => XS.icmpNo W1000.here W1000.hx rfl (hb hby dc22_33) rfl (flt d1).1 q9_) ?_
            refine Go.by (fun t9_ q9_ => XS.iload W1000.here W1000.hx rfl (hb hby dc22_36) rfl (XS.bipush W1000.here W1000.hx rfl (hb hby dc22_38) q9_)) ?_
            by_cases d2 : (57 : Int32) < c3
            · refine Go.by (fun t9_ q9_ => XS.icmpNo W1000.here W1000.hx rfl (hb hby dc22_40) rfl (tlt d2).2.2.2 q9_) ?_
              refine Go.by (fun t9_ q9_ => XS.iconst W1000.here W1000.hx rfl (hb hby dc22_43) q9_) ?_
              show Go _ _ _ _ _ _ _ _ _ (T999.setTop (mkF m 44 #[.val (.ref r), .val (.int ff), .val (.int tt), .val (.int (3 : Int32)), .val (.int c3)] [(.int (0 : Int32))]))
              exact W1000.retN (z' := (0 : Int32)) (by decide) (by decide) hret (by simp) (hb hby dc22_44) rfl ⟨by rw [hq, if_pos g_, if_neg d1, if_pos d2], rfl⟩
            · refine Go.by (fun t9_ q9_ => XS.icmpYes W1000.here W1000.hx rfl (pc0 := 40) (pc' := 45) rfl (hb hby dc22_40) rfl (flt d2).2.2.2 (by decide) (by decide) q9_) ?_
              refine Go.by (fun t9_ q9_ => XS.iinc W1000.here W1000.hx rfl (hb hby dc22_45) rfl (l' := #[.val (.ref r), .val (.int ff), .val (.int tt), .val (.int ((3 : Int32) + (1 : Int32))), .val (.int c3)]) rfl q9_) ?_
              show Go _ _ _ _ _ _ _ _ _ (T999.setTop (mkF m 48 #[.val (.ref r), .val (.int ff), .val (.int tt), .val (.int (4 : Int32)), .val (.int c3)] []))
              refine Go.by (fun t9_ q9_ => XS.goto W1000.here W1000.hx rfl (pc0 := 48) (pc' := 17) rfl (hb hby dc22_48) (by decide) (by decide) q9_) ?_
              exact J4 _ _ W1000 (Or.inr ⟨_, rfl⟩) (by rw [hq, if_pos g_, if_neg d1, if_neg d2])
        · refine Go.by (fun t9_ q9_ => XS.icmpYes W998.here W998.hx rfl (pc0 := 19) (pc' := 51) rfl (hb hby dc22_19) rfl (flt g_).2.1 (by decide) (by decide) q9_) ?_
          refine Go.by (fun t9_ q9_ => XS.iconst W998.here W998.hx rfl (hb hby dc22_51) q9_) ?_
          show Go _ _ _ _ _ _ _ _ _ (T997.setTop (mkF m 52 #[.val (.ref r), .val (.int ff), .val (.int tt), .val (.int (3 : Int32)), x4] [(.int (1 : Int32))]))
          exact W998.retN (z' := (1 : Int32)) (by decide) (by decide) hret (by simp) (hb hby dc22_52) rfl ⟨by rw [hq, if_neg g_], rfl⟩
      have J2 : ∀ (T1001 : State) (x4 : Slot), Wk p l e (⟨5, 0, 0, 80⟩ : Room) s m #[(.ref r), (.int ff), (.int tt)] below meth c Z a0 [("java/lang/String", 7)] "com/example/kontraktbuch/kontraktbuch/Notation" [] T1001 h0 0 0 → (x4 = .unset ∨ ∃ z : Int32, x4 = .val (.int z)) → (res4 c0 c1 c2 c3 ff tt) = (if (2 : Int32) < tt then (if c2 < (48 : Int32) then (0 : Int32) else if (57 : Int32) < c2 then 0 else (if (3 : Int32) < tt then (if c3 < (48 : Int32) then (0 : Int32) else if (57 : Int32) < c3 then 0 else (1 : Int32)) else 1)) else 1) → Go p e below s Z [("java/lang/String", 7)] (⟨5, 0, 0, 80⟩ : Room).cells (⟨5, 0, 0, 80⟩ : Room).slots (fun v h' => v = some (.int (res4 c0 c1 c2 c3 ff tt)) ∧ h' = h0) (T1001.setTop (mkF m 17 #[.val (.ref r), .val (.int ff), .val (.int tt), .val (.int (2 : Int32)), x4] [])) := by
        intro T1001 x4 W1002 hx4 hq
        refine Go.by (fun t9_ q9_ => XS.iloadN W1002.here W1002.hx rfl (hb hby dc22_17) rfl (XS.iloadN W1002.here W1002.hx rfl (hb hby dc22_18) rfl q9_)) ?_
        by_cases g_ : (2 : Int32) < tt
        · refine Go.by (fun t9_ q9_ => XS.icmpNo W1002.here W1002.hx rfl (hb hby dc22_19) rfl (tlt g_).2.1 q9_) ?_
          refine Go.by (fun t9_ q9_ => XS.aloadN W1002.here W1002.hx rfl (hb hby dc22_22) rfl rfl (XS.iloadN W1002.here W1002.hx rfl (hb hby dc22_23) rfl q9_)) ?_
          show Go _ _ _ _ _ _ _ _ _ (T1001.setTop (mkF m 24 #[.val (.ref r), .val (.int ff), .val (.int tt), .val (.int (2 : Int32)), x4] [(.int (2 : Int32)), (.ref r)]))
          refine W1002.callVp (y := (⟨"java/lang/String", "charAt", "(I)C"⟩ : MethodName)) (z := (⟨"java/lang/String", "charAt", "(I)C"⟩ : MethodName)) (wd81 hw) (wd82 hw) (nf_sel rfl (wd84 hw)) (wd84 hw) (wd83 hw) (wd10 hw) (wd85 hw) (by decide) SR.exa (a := r) (c_ca4_2 l Z a0 hw hEL h0 hE0 r c0 c1 c2 c3 G1 fm SG1 hG PSH SFM rfm SR) all0 (by decide) (by decide) (k' := 0) (n' := 0) rfl rfl (by decide) (by decide) (by rw [hml]; rfl) (argsL := [(.int (2 : Int32))]) (rest := []) (lenOf pd_15 rfl) rfl rfl (Wt := 0) (Nat.le_of_eq rfl) (hb hby dc22_24) ?_
          intro T1003 W1004
          refine Go.by (fun t9_ q9_ => XS.istore W1004.here W1004.hx rfl (hb hby dc22_27) rfl (l' := #[.val (.ref r), .val (.int ff), .val (.int tt), .val (.int (2 : Int32)), .val (.int c2)]) (by rcases hx4 with h_ | ⟨z_, h_⟩ <;> rw [h_] <;> rfl) (XS.iload W1004.here W1004.hx rfl (hb hby dc22_29) rfl (XS.bipush W1004.here W1004.hx rfl (hb hby dc22_31) q9_))) ?_
          by_cases d1 : c2 < (48 : Int32)
          · refine Go.by (fun t9_ q9_ => XS.icmpYes W1004.here W1004.hx rfl (pc0 := 33) (pc' := 43) rfl (hb hby dc22_33) rfl (tlt d1).1 (by decide) (by decide) q9_) ?_
            refine Go.by (fun t9_ q9_ => XS.iconst W1004.here W1004.hx rfl (hb hby dc22_43) q9_) ?_
            show Go _ _ _ _ _ _ _ _ _ (T1003.setTop (mkF m 44 #[.val (.ref r), .val (.int ff), .val (.int tt), .val (.int (2 : Int32)), .val (.int c2)] [(.int (0 : Int32))]))
            exact W1004.retN (z' := (0 : Int32)) (by decide) (by decide) hret (by simp) (hb hby dc22_44) rfl ⟨by rw [hq, if_pos g_, if_pos d1], rfl⟩
          · refine Go.by (fun t9_ q9_ => XS.icmpNo W1004.here W1004.hx rfl (hb hby dc22_33) rfl (flt d1).1 q9_) ?_
            refine Go.by (fun t9_ q9_ => XS.iload W1004.here W1004.hx rfl (hb hby dc22_36) rfl (XS.bipush W1004.here W1004.hx rfl (hb hby dc22_38) q9_)) ?_
            by_cases d2 : (57 : Int32) < c2
            · refine Go.by (fun t9_ q9_ => XS.icmpNo W1004.here W1004.hx rfl (hb hby dc22_40) rfl (tlt d2).2.2.2 q9_) ?_
              refine Go.by (fun t9_ q9_ => XS.iconst W1004.here W1004.hx rfl (hb hby dc22_43) q9_) ?_
              show Go _ _ _ _ _ _ _ _ _ (T1003.setTop (mkF m 44 #[.val (.ref r), .val (.int ff), .val (.int tt), .val (.int (2 : Int32)), .val (.int c2)] [(.int (0 : Int32))]))
              exact W1004.retN (z' := (0 : Int32)) (by decide) (by decide) hret (by simp) (hb hby dc22_44) rfl ⟨by rw [hq, if_pos g_, if_neg d1, if_pos d2], rfl⟩
            · refine Go.by (fun t9_ q9_ => XS.icmpYes W1004.here W1004.hx rfl (pc0 := 40) (pc' := 45) rfl (hb hby dc22_40) rfl (flt d2).2.2.2 (by decide) (by decide) q9_) ?_
              refine Go.by (fun t9_ q9_ => XS.iinc W1004.here W1004.hx rfl (hb hby dc22_45) rfl (l' := #[.val (.ref r), .val (.int ff), .val (.int tt), .val (.int ((2 : Int32) + (1 : Int32))), .val (.int c2)]) rfl q9_) ?_
              show Go _ _ _ _ _ _ _ _ _ (T1003.setTop (mkF m 48 #[.val (.ref r), .val (.int ff), .val (.int tt), .val (.int (3 : Int32)), .val (.int c2)] []))
              refine Go.by (fun t9_ q9_ => XS.goto W1004.here W1004.hx rfl (pc0 := 48) (pc' := 17) rfl (hb hby dc22_48) (by decide) (by decide) q9_) ?_
              exact J3 _ _ W1004 (Or.inr ⟨_, rfl⟩) (by rw [hq, if_pos g_, if_neg d1, if_neg d2])
        · refine Go.by (fun t9_ q9_ => XS.icmpYes W1002.here W1002.hx rfl (pc0 := 19) (pc' := 51) rfl (hb hby dc22_19) rfl (flt g_).2.1 (by decide) (by decide) q9_) ?_
          refine Go.by (fun t9_ q9_ => XS.iconst W1002.here W1002.hx rfl (hb hby dc22_51) q9_) ?_
          show Go _ _ _ _ _ _ _ _ _ (T1001.setTop (mkF m 52 #[.val (.ref r), .val (.int ff), .val (.int tt), .val (.int (2 : Int32)), x4] [(.int (1 : Int32))]))
          exact W1002.retN (z' := (1 : Int32)) (by decide) (by decide) hret (by simp) (hb hby dc22_52) rfl ⟨by rw [hq, if_neg g_], rfl⟩
      have J1 : ∀ (T1005 : State) (x4 : Slot), Wk p l e (⟨5, 0, 0, 80⟩ : Room) s m #[(.ref r), (.int ff), (.int tt)] below meth c Z a0 [("java/lang/String", 7)] "com/example/kontraktbuch/kontraktbuch/Notation" [] T1005 h0 0 0 → (x4 = .unset ∨ ∃ z : Int32, x4 = .val (.int z)) → (res4 c0 c1 c2 c3 ff tt) = (if (1 : Int32) < tt then (if c1 < (48 : Int32) then (0 : Int32) else if (57 : Int32) < c1 then 0 else (if (2 : Int32) < tt then (if c2 < (48 : Int32) then (0 : Int32) else if (57 : Int32) < c2 then 0 else (if (3 : Int32) < tt then (if c3 < (48 : Int32) then (0 : Int32) else if (57 : Int32) < c3 then 0 else (1 : Int32)) else 1)) else 1)) else 1) → Go p e below s Z [("java/lang/String", 7)] (⟨5, 0, 0, 80⟩ : Room).cells (⟨5, 0, 0, 80⟩ : Room).slots (fun v h' => v = some (.int (res4 c0 c1 c2 c3 ff tt)) ∧ h' = h0) (T1005.setTop (mkF m 17 #[.val (.ref r), .val (.int ff), .val (.int tt), .val (.int (1 : Int32)), x4] [])) := by
        intro T1005 x4 W1006 hx4 hq
        refine Go.by (fun t9_ q9_ => XS.iloadN W1006.here W1006.hx rfl (hb hby dc22_17) rfl (XS.iloadN W1006.here W1006.hx rfl (hb hby dc22_18) rfl q9_)) ?_
        by_cases g_ : (1 : Int32) < tt
        · refine Go.by (fun t9_ q9_ => XS.icmpNo W1006.here W1006.hx rfl (hb hby dc22_19) rfl (tlt g_).2.1 q9_) ?_
          refine Go.by (fun t9_ q9_ => XS.aloadN W1006.here W1006.hx rfl (hb hby dc22_22) rfl rfl (XS.iloadN W1006.here W1006.hx rfl (hb hby dc22_23) rfl q9_)) ?_
          show Go _ _ _ _ _ _ _ _ _ (T1005.setTop (mkF m 24 #[.val (.ref r), .val (.int ff), .val (.int tt), .val (.int (1 : Int32)), x4] [(.int (1 : Int32)), (.ref r)]))
          refine W1006.callVp (y := (⟨"java/lang/String", "charAt", "(I)C"⟩ : MethodName)) (z := (⟨"java/lang/String", "charAt", "(I)C"⟩ : MethodName)) (wd81 hw) (wd82 hw) (nf_sel rfl (wd84 hw)) (wd84 hw) (wd83 hw) (wd10 hw) (wd85 hw) (by decide) SR.exa (a := r) (c_ca4_1 l Z a0 hw hEL h0 hE0 r c0 c1 c2 c3 G1 fm SG1 hG PSH SFM rfm SR) all0 (by decide) (by decide) (k' := 0) (n' := 0) rfl rfl (by decide) (by decide) (by rw [hml]; rfl) (argsL := [(.int (1 : Int32))]) (rest := []) (lenOf pd_15 rfl) rfl rfl (Wt := 0) (Nat.le_of_eq rfl) (hb hby dc22_24) ?_
          intro T1007 W1008
          refine Go.by (fun t9_ q9_ => XS.istore W1008.here W1008.hx rfl (hb hby dc22_27) rfl (l' := #[.val (.ref r), .val (.int ff), .val (.int tt), .val (.int (1 : Int32)), .val (.int c1)]) (by rcases hx4 with h_ | ⟨z_, h_⟩ <;> rw [h_] <;> rfl) (XS.iload W1008.here W1008.hx rfl (hb hby dc22_29) rfl (XS.bipush W1008.here W1008.hx rfl (hb hby dc22_31) q9_))) ?_
          by_cases d1 : c1 < (48 : Int32)
          · refine Go.by (fun t9_ q9_ => XS.icmpYes W1008.here W1008.hx rfl (pc0 := 33) (pc' := 43) rfl (hb hby dc22_33) rfl (tlt d1).1 (by decide) (by decide) q9_) ?_
            refine Go.by (fun t9_ q9_ => XS.iconst W1008.here W1008.hx rfl (hb hby dc22_43) q9_) ?_
            show Go _ _ _ _ _ _ _ _ _ (T1007.setTop (mkF m 44 #[.val (.ref r), .val (.int ff), .val (.int tt), .val (.int (1 : Int32)), .val (.int c1)] [(.int (0 : Int32))]))
            exact W1008.retN (z' := (0 : Int32)) (by decide) (by decide) hret (by simp) (hb hby dc22_44) rfl ⟨by rw [hq, if_pos g_, if_pos d1], rfl⟩
          · refine Go.by (fun t9_ q9_ => XS.icmpNo W1008.here W1008.hx rfl (hb hby dc22_33) rfl (flt d1).1 q9_) ?_
            refine Go.by (fun t9_ q9_ => XS.iload W1008.here W1008.hx rfl (hb hby dc22_36) rfl (XS.bipush W1008.here W1008.hx rfl (hb hby dc22_38) q9_)) ?_
            by_cases d2 : (57 : Int32) < c1
            · refine Go.by (fun t9_ q9_ => XS.icmpNo W1008.here W1008.hx rfl (hb hby dc22_40) rfl (tlt d2).2.2.2 q9_) ?_
              refine Go.by (fun t9_ q9_ => XS.iconst W1008.here W1008.hx rfl (hb hby dc22_43) q9_) ?_
              show Go _ _ _ _ _ _ _ _ _ (T1007.setTop (mkF m 44 #[.val (.ref r), .val (.int ff), .val (.int tt), .val (.int (1 : Int32)), .val (.int c1)] [(.int (0 : Int32))]))
              exact W1008.retN (z' := (0 : Int32)) (by decide) (by decide) hret (by simp) (hb hby dc22_44) rfl ⟨by rw [hq, if_pos g_, if_neg d1, if_pos d2], rfl⟩
            · refine Go.by (fun t9_ q9_ => XS.icmpYes W1008.here W1008.hx rfl (pc0 := 40) (pc' := 45) rfl (hb hby dc22_40) rfl (flt d2).2.2.2 (by decide) (by decide) q9_) ?_
              refine Go.by (fun t9_ q9_ => XS.iinc W1008.here W1008.hx rfl (hb hby dc22_45) rfl (l' := #[.val (.ref r), .val (.int ff), .val (.int tt), .val (.int ((1 : Int32) + (1 : Int32))), .val (.int c1)]) rfl q9_) ?_
              show Go _ _ _ _ _ _ _ _ _ (T1007.setTop (mkF m 48 #[.val (.ref r), .val (.int ff), .val (.int tt), .val (.int (2 : Int32)), .val (.int c1)] []))
              refine Go.by (fun t9_ q9_ => XS.goto W1008.here W1008.hx rfl (pc0 := 48) (pc' := 17) rfl (hb hby dc22_48) (by decide) (by decide) q9_) ?_
              exact J2 _ _ W1008 (Or.inr ⟨_, rfl⟩) (by rw [hq, if_pos g_, if_neg d1, if_neg d2])
        · refine Go.by (fun t9_ q9_ => XS.icmpYes W1006.here W1006.hx rfl (pc0 := 19) (pc' := 51) rfl (hb hby dc22_19) rfl (flt g_).2.1 (by decide) (by decide) q9_) ?_
          refine Go.by (fun t9_ q9_ => XS.iconst W1006.here W1006.hx rfl (hb hby dc22_51) q9_) ?_
          show Go _ _ _ _ _ _ _ _ _ (T1005.setTop (mkF m 52 #[.val (.ref r), .val (.int ff), .val (.int tt), .val (.int (1 : Int32)), x4] [(.int (1 : Int32))]))
          exact W1006.retN (z' := (1 : Int32)) (by decide) (by decide) hret (by simp) (hb hby dc22_52) rfl ⟨by rw [hq, if_neg g_], rfl⟩
      have J0 : ∀ (T1009 : State) (x4 : Slot), Wk p l e (⟨5, 0, 0, 80⟩ : Room) s m #[(.ref r), (.int ff), (.int tt)] below meth c Z a0 [("java/lang/String", 7)] "com/example/kontraktbuch/kontraktbuch/Notation" [] T1009 h0 0 0 → (x4 = .unset ∨ ∃ z : Int32, x4 = .val (.int z)) → (res4 c0 c1 c2 c3 ff tt) = (if (0 : Int32) < tt then (if c0 < (48 : Int32) then (0 : Int32) else if (57 : Int32) < c0 then 0 else (if (1 : Int32) < tt then (if c1 < (48 : Int32) then (0 : Int32) else if (57 : Int32) < c1 then 0 else (if (2 : Int32) < tt then (if c2 < (48 : Int32) then (0 : Int32) else if (57 : Int32) < c2 then 0 else (if (3 : Int32) < tt then (if c3 < (48 : Int32) then (0 : Int32) else if (57 : Int32) < c3 then 0 else (1 : Int32)) else 1)) else 1)) else 1)) else 1) → Go p e below s Z [("java/lang/String", 7)] (⟨5, 0, 0, 80⟩ : Room).cells (⟨5, 0, 0, 80⟩ : Room).slots (fun v h' => v = some (.int (res4 c0 c1 c2 c3 ff tt)) ∧ h' = h0) (T1009.setTop (mkF m 17 #[.val (.ref r), .val (.int ff), .val (.int tt), .val (.int (0 : Int32)), x4] [])) := by
        intro T1009 x4 W1010 hx4 hq
        refine Go.by (fun t9_ q9_ => XS.iloadN W1010.here W1010.hx rfl (hb hby dc22_17) rfl (XS.iloadN W1010.here W1010.hx rfl (hb hby dc22_18) rfl q9_)) ?_
        by_cases g_ : (0 : Int32) < tt
        · refine Go.by (fun t9_ q9_ => XS.icmpNo W1010.here W1010.hx rfl (hb hby dc22_19) rfl (tlt g_).2.1 q9_) ?_
          refine Go.by (fun t9_ q9_ => XS.aloadN W1010.here W1010.hx rfl (hb hby dc22_22) rfl rfl (XS.iloadN W1010.here W1010.hx rfl (hb hby dc22_23) rfl q9_)) ?_
          show Go _ _ _ _ _ _ _ _ _ (T1009.setTop (mkF m 24 #[.val (.ref r), .val (.int ff), .val (.int tt), .val (.int (0 : Int32)), x4] [(.int (0 : Int32)), (.ref r)]))
          refine W1010.callVp (y := (⟨"java/lang/String", "charAt", "(I)C"⟩ : MethodName)) (z := (⟨"java/lang/String", "charAt", "(I)C"⟩ : MethodName)) (wd81 hw) (wd82 hw) (nf_sel rfl (wd84 hw)) (wd84 hw) (wd83 hw) (wd10 hw) (wd85 hw) (by decide) SR.exa (a := r) (c_ca4_0 l Z a0 hw hEL h0 hE0 r c0 c1 c2 c3 G1 fm SG1 hG PSH SFM rfm SR) all0 (by decide) (by decide) (k' := 0) (n' := 0) rfl rfl (by decide) (by decide) (by rw [hml]; rfl) (argsL := [(.int (0 : Int32))]) (rest := []) (lenOf pd_15 rfl) rfl rfl (Wt := 0) (Nat.le_of_eq rfl) (hb hby dc22_24) ?_
          intro T1011 W1012
          refine Go.by (fun t9_ q9_ => XS.istore W1012.here W1012.hx rfl (hb hby dc22_27) rfl (l' := #[.val (.ref r), .val (.int ff), .val (.int tt), .val (.int (0 : Int32)), .val (.int c0)]) (by rcases hx4 with h_ | ⟨z_, h_⟩ <;> rw [h_] <;> rfl) (XS.iload W1012.here W1012.hx rfl (hb hby dc22_29) rfl (XS.bipush W1012.here W1012.hx rfl (hb hby dc22_31) q9_))) ?_
          by_cases d1 : c0 < (48 : Int32)
          · refine Go.by (fun t9_ q9_ => XS.icmpYes W1012.here W1012.hx rfl (pc0 := 33) (pc' := 43) rfl (hb hby dc22_33) rfl (tlt d1).1 (by decide) (by decide) q9_) ?_
            refine Go.by (fun t9_ q9_ => XS.iconst W1012.here W1012.hx rfl (hb hby dc22_43) q9_) ?_
            show Go _ _ _ _ _ _ _ _ _ (T1011.setTop (mkF m 44 #[.val (.ref r), .val (.int ff), .val (.int tt), .val (.int (0 : Int32)), .val (.int c0)] [(.int (0 : Int32))]))
            exact W1012.retN (z' := (0 : Int32)) (by decide) (by decide) hret (by simp) (hb hby dc22_44) rfl ⟨by rw [hq, if_pos g_, if_pos d1], rfl⟩
          · refine Go.by (fun t9_ q9_ => XS.icmpNo W1012.here W1012.hx rfl (hb hby dc22_33) rfl (flt d1).1 q9_) ?_
            refine Go.by (fun t9_ q9_ => XS.iload W1012.here W1012.hx rfl (hb hby dc22_36) rfl (XS.bipush W1012.here W1012.hx rfl (hb hby dc22_38) q9_)) ?_
            by_cases d2 : (57 : Int32) < c0
            · refine Go.by (fun t9_ q9_ => XS.icmpNo W1012.here W1012.hx rfl (hb hby dc22_40) rfl (tlt d2).2.2.2 q9_) ?_
              refine Go.by (fun t9_ q9_ => XS.iconst W1012.here W1012.hx rfl (hb hby dc22_43) q9_) ?_
              show Go _ _ _ _ _ _ _ _ _ (T1011.setTop (mkF m 44 #[.val (.ref r), .val (.int ff), .val (.int tt), .val (.int (0 : Int32)), .val (.int c0)] [(.int (0 : Int32))]))
              exact W1012.retN (z' := (0 : Int32)) (by decide) (by decide) hret (by simp) (hb hby dc22_44) rfl ⟨by rw [hq, if_pos g_, if_neg d1, if_pos d2], rfl⟩
            · refine Go.by (fun t9_ q9_ => XS.icmpYes W1012.here W1012.hx rfl (pc0 := 40) (pc' := 45) rfl (hb hby dc22_40) rfl (flt d2).2.2.2 (by decide) (by decide) q9_) ?_
              refine Go.by (fun t9_ q9_ => XS.iinc W1012.here W1012.hx rfl (hb hby dc22_45) rfl (l' := #[.val (.ref r), .val (.int ff), .val (.int tt), .val (.int ((0 : Int32) + (1 : Int32))), .val (.int c0)]) rfl q9_) ?_
              show Go _ _ _ _ _ _ _ _ _ (T1011.setTop (mkF m 48 #[.val (.ref r), .val (.int ff), .val (.int tt), .val (.int (1 : Int32)), .val (.int c0)] []))
              refine Go.by (fun t9_ q9_ => XS.goto W1012.here W1012.hx rfl (pc0 := 48) (pc' := 17) rfl (hb hby dc22_48) (by decide) (by decide) q9_) ?_
              exact J1 _ _ W1012 (Or.inr ⟨_, rfl⟩) (by rw [hq, if_pos g_, if_neg d1, if_neg d2])
        · refine Go.by (fun t9_ q9_ => XS.icmpYes W1010.here W1010.hx rfl (pc0 := 19) (pc' := 51) rfl (hb hby dc22_19) rfl (flt g_).2.1 (by decide) (by decide) q9_) ?_
          refine Go.by (fun t9_ q9_ => XS.iconst W1010.here W1010.hx rfl (hb hby dc22_51) q9_) ?_
          show Go _ _ _ _ _ _ _ _ _ (T1009.setTop (mkF m 52 #[.val (.ref r), .val (.int ff), .val (.int tt), .val (.int (0 : Int32)), x4] [(.int (1 : Int32))]))
          exact W1010.retN (z' := (1 : Int32)) (by decide) (by decide) hret (by simp) (hb hby dc22_52) rfl ⟨by rw [hq, if_neg g_], rfl⟩
      rcases hf with rfl | rfl | rfl | rfl
      · exact J0 _ _ W994 (Or.inl rfl) (by unfold res4; rw [if_pos h1, if_neg h2, if_pos rfl])
      · exact J1 _ _ W994 (Or.inl rfl) (by unfold res4; rw [if_pos h1, if_neg h2, if_neg (by decide), if_pos rfl])
      · exact J2 _ _ W994 (Or.inl rfl) (by unfold res4; rw [if_pos h1, if_neg h2, if_neg (by decide), if_neg (by decide), if_pos rfl])
      · exact J3 _ _ W994 (Or.inl rfl) (by unfold res4; rw [if_pos h1, if_neg h2, if_neg (by decide), if_neg (by decide), if_neg (by decide), if_pos rfl])
  · refine Go.by (fun t9_ q9_ => XS.icmpYes W0.here W0.hx rfl (pc0 := 2) (pc' := 13) rfl (hb hby dc22_2) rfl (flt h1).2.1 (by decide) (by decide) q9_) ?_
    refine Go.by (fun t9_ q9_ => XS.iconst W0.here W0.hx rfl (hb hby dc22_13) q9_) ?_
    show Go _ _ _ _ _ _ _ _ _ (T0.setTop (mkF m 14 #[.val (.ref r), .val (.int ff), .val (.int tt), .unset, .unset] [(.int (0 : Int32))]))
    exact W0.retN (z' := (0 : Int32)) (by decide) (by decide) hret (by simp) (hb hby dc22_14) rfl ⟨by unfold res4; rw [if_neg h1], rfl⟩
def dg (c : Int32) : Int32 := if c < (48 : Int32) then (0 : Int32) else if (57 : Int32) < c then 0 else 1
theorem dg01 (c : Int32) : dg c = 0 ∨ dg c = 1 := by unfold dg; split; exact Or.inl rfl; split; exact Or.inl rfl; exact Or.inr rfl
theorem dg_st (c X : Int32) : (if c < (48 : Int32) then (0 : Int32) else if (57 : Int32) < c then 0 else X) = if dg c = 0 then 0 else X := by
  unfold dg
  by_cases h1 : c < (48 : Int32)
  · rw [if_pos h1, if_pos h1, if_pos rfl]
  · rw [if_neg h1, if_neg h1]
    by_cases h2 : (57 : Int32) < c
    · rw [if_pos h2, if_pos h2, if_pos rfl]
    · rw [if_neg h2, if_neg h2, if_neg (by decide)]

set_option maxHeartbeats 40000000 in
theorem exp_1 (c0 c1 c2 c3 ff tt : Int32) (hff : ¬ ff < 0) (h1 : ff < tt) (h2 : ¬ (1 : Int32) < tt) :
    (res1 c0 ff tt) = (if (if (0 : Int32) < ff then (1 : Int32) else if (0 : Int32) < tt then (if c0 < (48 : Int32) then (0 : Int32) else if (57 : Int32) < c0 then 0 else 1) else 1) = 0 ∨ (if (1 : Int32) < ff then (1 : Int32) else if (1 : Int32) < tt then (if c1 < (48 : Int32) then (0 : Int32) else if (57 : Int32) < c1 then 0 else 1) else 1) = 0 ∨ (if (2 : Int32) < ff then (1 : Int32) else if (2 : Int32) < tt then (if c2 < (48 : Int32) then (0 : Int32) else if (57 : Int32) < c2 then 0 else 1) else 1) = 0 ∨ (if (3 : Int32) < ff then (1 : Int32) else if (3 : Int32) < tt then (if c3 < (48 : Int32) then (0 : Int32) else if (57 : Int32) < c3 then 0 else 1) else 1) = 0 then 0 else 1) := by
  have hf := ffc1 hff h1 h2
  have ht := ttc1 hff h1 h2
  unfold res1
  rw [if_pos h1, if_neg h2]
  simp only [dg_st]
  rcases hf with rfl <;> rcases ht with rfl <;> first | (exfalso; revert h1; decide) | (clear h1; rcases dg01 c0 with e0 | e0 <;> rcases dg01 c1 with e1 | e1 <;> rcases dg01 c2 with e2 | e2 <;> rcases dg01 c3 with e3 | e3 <;> simp only [e0, e1, e2, e3] <;> decide)
set_option maxHeartbeats 40000000 in
theorem exp_2 (c0 c1 c2 c3 ff tt : Int32) (hff : ¬ ff < 0) (h1 : ff < tt) (h2 : ¬ (2 : Int32) < tt) :
    (res2 c0 c1 ff tt) = (if (if (0 : Int32) < ff then (1 : Int32) else if (0 : Int32) < tt then (if c0 < (48 : Int32) then (0 : Int32) else if (57 : Int32) < c0 then 0 else 1) else 1) = 0 ∨ (if (1 : Int32) < ff then (1 : Int32) else if (1 : Int32) < tt then (if c1 < (48 : Int32) then (0 : Int32) else if (57 : Int32) < c1 then 0 else 1) else 1) = 0 ∨ (if (2 : Int32) < ff then (1 : Int32) else if (2 : Int32) < tt then (if c2 < (48 : Int32) then (0 : Int32) else if (57 : Int32) < c2 then 0 else 1) else 1) = 0 ∨ (if (3 : Int32) < ff then (1 : Int32) else if (3 : Int32) < tt then (if c3 < (48 : Int32) then (0 : Int32) else if (57 : Int32) < c3 then 0 else 1) else 1) = 0 then 0 else 1) := by
  have hf := ffc2 hff h1 h2
  have ht := ttc2 hff h1 h2
  unfold res2
  rw [if_pos h1, if_neg h2]
  simp only [dg_st]
  rcases hf with rfl | rfl <;> rcases ht with rfl | rfl <;> first | (exfalso; revert h1; decide) | (clear h1; rcases dg01 c0 with e0 | e0 <;> rcases dg01 c1 with e1 | e1 <;> rcases dg01 c2 with e2 | e2 <;> rcases dg01 c3 with e3 | e3 <;> simp only [e0, e1, e2, e3] <;> decide)
set_option maxHeartbeats 40000000 in
theorem exp_3 (c0 c1 c2 c3 ff tt : Int32) (hff : ¬ ff < 0) (h1 : ff < tt) (h2 : ¬ (3 : Int32) < tt) :
    (res3 c0 c1 c2 ff tt) = (if (if (0 : Int32) < ff then (1 : Int32) else if (0 : Int32) < tt then (if c0 < (48 : Int32) then (0 : Int32) else if (57 : Int32) < c0 then 0 else 1) else 1) = 0 ∨ (if (1 : Int32) < ff then (1 : Int32) else if (1 : Int32) < tt then (if c1 < (48 : Int32) then (0 : Int32) else if (57 : Int32) < c1 then 0 else 1) else 1) = 0 ∨ (if (2 : Int32) < ff then (1 : Int32) else if (2 : Int32) < tt then (if c2 < (48 : Int32) then (0 : Int32) else if (57 : Int32) < c2 then 0 else 1) else 1) = 0 ∨ (if (3 : Int32) < ff then (1 : Int32) else if (3 : Int32) < tt then (if c3 < (48 : Int32) then (0 : Int32) else if (57 : Int32) < c3 then 0 else 1) else 1) = 0 then 0 else 1) := by
  have hf := ffc3 hff h1 h2
  have ht := ttc3 hff h1 h2
  unfold res3
  rw [if_pos h1, if_neg h2]
  simp only [dg_st]
  rcases hf with rfl | rfl | rfl <;> rcases ht with rfl | rfl | rfl <;> first | (exfalso; revert h1; decide) | (clear h1; rcases dg01 c0 with e0 | e0 <;> rcases dg01 c1 with e1 | e1 <;> rcases dg01 c2 with e2 | e2 <;> rcases dg01 c3 with e3 | e3 <;> simp only [e0, e1, e2, e3] <;> decide)
set_option maxHeartbeats 40000000 in
theorem exp_4 (c0 c1 c2 c3 ff tt : Int32) (hff : ¬ ff < 0) (h1 : ff < tt) (h2 : ¬ (4 : Int32) < tt) :
    (res4 c0 c1 c2 c3 ff tt) = (if (if (0 : Int32) < ff then (1 : Int32) else if (0 : Int32) < tt then (if c0 < (48 : Int32) then (0 : Int32) else if (57 : Int32) < c0 then 0 else 1) else 1) = 0 ∨ (if (1 : Int32) < ff then (1 : Int32) else if (1 : Int32) < tt then (if c1 < (48 : Int32) then (0 : Int32) else if (57 : Int32) < c1 then 0 else 1) else 1) = 0 ∨ (if (2 : Int32) < ff then (1 : Int32) else if (2 : Int32) < tt then (if c2 < (48 : Int32) then (0 : Int32) else if (57 : Int32) < c2 then 0 else 1) else 1) = 0 ∨ (if (3 : Int32) < ff then (1 : Int32) else if (3 : Int32) < tt then (if c3 < (48 : Int32) then (0 : Int32) else if (57 : Int32) < c3 then 0 else 1) else 1) = 0 then 0 else 1) := by
  have hf := ffc4 hff h1 h2
  have ht := ttc4 hff h1 h2
  unfold res4
  rw [if_pos h1, if_neg h2]
  simp only [dg_st]
  rcases hf with rfl | rfl | rfl | rfl <;> rcases ht with rfl | rfl | rfl | rfl <;> first | (exfalso; revert h1; decide) | (clear h1; rcases dg01 c0 with e0 | e0 <;> rcases dg01 c1 with e1 | e1 <;> rcases dg01 c2 with e2 | e2 <;> rcases dg01 c3 with e3 | e3 <;> simp only [e0, e1, e2, e3] <;> decide)
theorem mod5 (x : Int32) : (x &&& (7 : Int32)) % (5 : Int32) = 0 ∨ (x &&& (7 : Int32)) % (5 : Int32) = 1 ∨ (x &&& (7 : Int32)) % (5 : Int32) = 2 ∨ (x &&& (7 : Int32)) % (5 : Int32) = 3 ∨ (x &&& (7 : Int32)) % (5 : Int32) = 4 := by
  have h := c_and x 7 (by decide)
  have e7 : (7 : Int32).toInt = 7 := rfl
  rcases (by omega : (x &&& (7 : Int32)).toInt = 0 ∨ (x &&& (7 : Int32)).toInt = 1 ∨ (x &&& (7 : Int32)).toInt = 2 ∨ (x &&& (7 : Int32)).toInt = 3 ∨ (x &&& (7 : Int32)).toInt = 4 ∨ (x &&& (7 : Int32)).toInt = 5 ∨ (x &&& (7 : Int32)).toInt = 6 ∨ (x &&& (7 : Int32)).toInt = 7) with q | q | q | q | q | q | q | q
  · rw [show x &&& (7 : Int32) = 0 from Int32.toInt_inj.mp q]; decide
  · rw [show x &&& (7 : Int32) = 1 from Int32.toInt_inj.mp q]; decide
  · rw [show x &&& (7 : Int32) = 2 from Int32.toInt_inj.mp q]; decide
  · rw [show x &&& (7 : Int32) = 3 from Int32.toInt_inj.mp q]; decide
  · rw [show x &&& (7 : Int32) = 4 from Int32.toInt_inj.mp q]; decide
  · rw [show x &&& (7 : Int32) = 5 from Int32.toInt_inj.mp q]; decide
  · rw [show x &&& (7 : Int32) = 6 from Int32.toInt_inj.mp q]; decide
  · rw [show x &&& (7 : Int32) = 7 from Int32.toInt_inj.mp q]; decide
theorem pos_if (x : Int32) (P : Prop) [Decidable P] : ¬ (if P then (x &&& (7 : Int32)) else (x &&& (2147483647 : Int32))) < 0 := by
  have h := c_and x 7 (by decide)
  have h' := c_and x 2147483647 (by decide)
  have e0 : (0 : Int32).toInt = 0 := rfl
  split <;> rw [Int32.lt_iff_toInt_lt] <;> omega

theorem c_law (l : Launch) (Z : State) (a0 : Array Value) (hw : HW Z a0) (hEL : EW Z a0 [("java/lang/String", 7)]) (h0 : Heap) (hE0 : Ext Z.heap h0) (p0 : Int32) (p1 : Int64) (p2 p3 G1 : Int32) (fm : Value) (PSH : PS3 Z) (SG1 : Sta Z Z.heap "java/lang/String" "COMPACT_STRINGS" "Z" (.int G1)) (hG : ¬ G1 = 0) (SFM : Sta Z Z.heap "jdk/internal/util/Preconditions" "SIOOBE_FORMATTER" "Ljava/util/function/BiFunction;" fm) (rfm : fm.isRef = true) :
    Con l Z [("java/lang/String", 7)] [] x code maxLocals ret tables_1 room_1 #[(.int p0), (.long p1), (.int p2), (.int p3)] h0 (fun v h' => v = some (.int 1)) := by
  refine Con.mk (plainFor_of_name pn_4) hEL hE0 (fun x hx => by cases hx) ?_
  intro p e s m below meth c T0 hby hml hret hnm W0
  rw [(show entryFrame m #[(.int p0), (.long p1), (.int p2), (.int p3)] maxLocals = mkF m 0 #[.val (.int p0), .val (.long p1), .second, .val (.int p2), .val (.int p3), .unset, .unset, .unset, .unset, .unset, .unset, .unset, .unset, .unset, .unset] [] from by first | (simp [entryFrame, mkF, argsToLocals, Value.category, maxLocals]; done) | rfl)]
  refine Go.by (fun t9_ q9_ => XS.iloadN W0.here W0.hx rfl (hb hby at_0) rfl (XS.bipush W0.here W0.hx rfl (hb hby at_1) (XS.iand W0.here W0.hx rfl (hb hby at_3) rfl (XS.iconst W0.here W0.hx rfl (hb hby at_4) (iremW W0.here W0.hx rfl (hb hby at_5) rfl (by decide) (XS.istore W0.here W0.hx rfl (hb hby at_6) rfl (l' := #[.val (.int p0), .val (.long p1), .second, .val (.int p2), .val (.int p3), .val (.int ((p0 &&& (7 : Int32)) % (5 : Int32))), .unset, .unset, .unset, .unset, .unset, .unset, .unset, .unset, .unset]) rfl q9_)))))) ?_
  show Go _ _ _ _ _ _ _ _ _ (T0.setTop (mkF m 8 #[.val (.int p0), .val (.long p1), .second, .val (.int p2), .val (.int p3), .val (.int ((p0 &&& (7 : Int32)) % (5 : Int32))), .unset, .unset, .unset, .unset, .unset, .unset, .unset, .unset, .unset] []))
  obtain ⟨nn, h_nn⟩ : ∃ z : Int32, z = ((p0 &&& (7 : Int32)) % (5 : Int32)) := ⟨_, rfl⟩
  rw [← h_nn]
  have hn : nn = 0 ∨ nn = 1 ∨ nn = 2 ∨ nn = 3 ∨ nn = 4 := by rw [h_nn]; exact mod5 p0
  clear h_nn
  refine Go.by (fun t9_ q9_ => XS.lloadN W0.here W0.hx rfl (hb hby at_8) rfl (XS.iloadN W0.here W0.hx rfl (hb hby at_9) rfl (XS.iconst W0.here W0.hx rfl (hb hby at_10) q9_))) ?_
  show Go _ _ _ _ _ _ _ _ _ (T0.setTop (mkF m 11 #[.val (.int p0), .val (.long p1), .second, .val (.int p2), .val (.int p3), .val (.int nn), .unset, .unset, .unset, .unset, .unset, .unset, .unset, .unset, .unset] [(.int (0 : Int32)), (.int p0), (.long p1)]))
  refine W0.callSr (y := (⟨"com/example/kontraktbuch/kontraktbuch/NotationIsDigitsPinLaw", "draw", "(JII)C"⟩ : MethodName)) (wd0 hw) (wd1 hw) (wd2 hw) (wd3 hw) (by decide) (c_draw0 l Z a0 hw hEL h0 W0.old p1 p0) all0 (by decide) (by decide) (k' := 0) (n' := 0) rfl rfl (by decide) (by decide) (by rw [hml]; rfl) (argsL := [(.long p1), (.int p0), (.int (0 : Int32))]) (rest := []) (lenOf pd_16 rfl) rfl rfl (Wt := 0) (Nat.le_of_eq rfl) (hb hby at_11) ?_
  intro v_ T1013 W1014 hq_
  obtain ⟨c0, rfl, r0⟩ := hq_
  refine Go.by (fun t9_ q9_ => XS.istore W1014.here W1014.hx rfl (hb hby at_14) rfl (l' := #[.val (.int p0), .val (.long p1), .second, .val (.int p2), .val (.int p3), .val (.int nn), .val (.int c0), .unset, .unset, .unset, .unset, .unset, .unset, .unset, .unset]) rfl (XS.lloadN W1014.here W1014.hx rfl (hb hby at_16) rfl (XS.iloadN W1014.here W1014.hx rfl (hb hby at_17) rfl (XS.iconst W1014.here W1014.hx rfl (hb hby at_18) q9_)))) ?_
  show Go _ _ _ _ _ _ _ _ _ (T1013.setTop (mkF m 19 #[.val (.int p0), .val (.long p1), .second, .val (.int p2), .val (.int p3), .val (.int nn), .val (.int c0), .unset, .unset, .unset, .unset, .unset, .unset, .unset, .unset] [(.int (1 : Int32)), (.int p0), (.long p1)]))
  refine W1014.callSr (y := (⟨"com/example/kontraktbuch/kontraktbuch/NotationIsDigitsPinLaw", "draw", "(JII)C"⟩ : MethodName)) (wd0 hw) (wd1 hw) (wd2 hw) (wd3 hw) (by decide) (c_draw1 l Z a0 hw hEL h0 W1014.old p1 p0) all0 (by decide) (by decide) (k' := 0) (n' := 0) rfl rfl (by decide) (by decide) (by rw [hml]; rfl) (argsL := [(.long p1), (.int p0), (.int (1 : Int32))]) (rest := []) (lenOf pd_16 rfl) rfl rfl (Wt := 0) (Nat.le_of_eq rfl) (hb hby at_19) ?_
  intro v_ T1015 W1016 hq_
  obtain ⟨c1, rfl, r1⟩ := hq_
  refine Go.by (fun t9_ q9_ => XS.istore W1016.here W1016.hx rfl (hb hby at_22) rfl (l' := #[.val (.int p0), .val (.long p1), .second, .val (.int p2), .val (.int p3), .val (.int nn), .val (.int c0), .val (.int c1), .unset, .unset, .unset, .unset, .unset, .unset, .unset]) rfl (XS.lloadN W1016.here W1016.hx rfl (hb hby at_24) rfl (XS.iloadN W1016.here W1016.hx rfl (hb hby at_25) rfl (XS.iconst W1016.here W1016.hx rfl (hb hby at_26) q9_)))) ?_
  show Go _ _ _ _ _ _ _ _ _ (T1015.setTop (mkF m 27 #[.val (.int p0), .val (.long p1), .second, .val (.int p2), .val (.int p3), .val (.int nn), .val (.int c0), .val (.int c1), .unset, .unset, .unset, .unset, .unset, .unset, .unset] [(.int (2 : Int32)), (.int p0), (.long p1)]))
  refine W1016.callSr (y := (⟨"com/example/kontraktbuch/kontraktbuch/NotationIsDigitsPinLaw", "draw", "(JII)C"⟩ : MethodName)) (wd0 hw) (wd1 hw) (wd2 hw) (wd3 hw) (by decide) (c_draw2 l Z a0 hw hEL h0 W1016.old p1 p0) all0 (by decide) (by decide) (k' := 0) (n' := 0) rfl rfl (by decide) (by decide) (by rw [hml]; rfl) (argsL := [(.long p1), (.int p0), (.int (2 : Int32))]) (rest := []) (lenOf pd_16 rfl) rfl rfl (Wt := 0) (Nat.le_of_eq rfl) (hb hby at_27) ?_
  intro v_ T1017 W1018 hq_
  obtain ⟨c2, rfl, r2⟩ := hq_
  refine Go.by (fun t9_ q9_ => XS.istore W1018.here W1018.hx rfl (hb hby at_30) rfl (l' := #[.val (.int p0), .val (.long p1), .second, .val (.int p2), .val (.int p3), .val (.int nn), .val (.int c0), .val (.int c1), .val (.int c2), .unset, .unset, .unset, .unset, .unset, .unset]) rfl (XS.lloadN W1018.here W1018.hx rfl (hb hby at_32) rfl (XS.iloadN W1018.here W1018.hx rfl (hb hby at_33) rfl (XS.iconst W1018.here W1018.hx rfl (hb hby at_34) q9_)))) ?_
  show Go _ _ _ _ _ _ _ _ _ (T1017.setTop (mkF m 35 #[.val (.int p0), .val (.long p1), .second, .val (.int p2), .val (.int p3), .val (.int nn), .val (.int c0), .val (.int c1), .val (.int c2), .unset, .unset, .unset, .unset, .unset, .unset] [(.int (3 : Int32)), (.int p0), (.long p1)]))
  refine W1018.callSr (y := (⟨"com/example/kontraktbuch/kontraktbuch/NotationIsDigitsPinLaw", "draw", "(JII)C"⟩ : MethodName)) (wd0 hw) (wd1 hw) (wd2 hw) (wd3 hw) (by decide) (c_draw3 l Z a0 hw hEL h0 W1018.old p1 p0) all0 (by decide) (by decide) (k' := 0) (n' := 0) rfl rfl (by decide) (by decide) (by rw [hml]; rfl) (argsL := [(.long p1), (.int p0), (.int (3 : Int32))]) (rest := []) (lenOf pd_16 rfl) rfl rfl (Wt := 0) (Nat.le_of_eq rfl) (hb hby at_35) ?_
  intro v_ T1019 W1020 hq_
  obtain ⟨c3, rfl, r3⟩ := hq_
  rcases hn with rfl | rfl | rfl | rfl | rfl
  · refine Go.by (fun t9_ q9_ => XS.istore W1020.here W1020.hx rfl (hb hby at_38) rfl (l' := #[.val (.int p0), .val (.long p1), .second, .val (.int p2), .val (.int p3), .val (.int (0 : Int32)), .val (.int c0), .val (.int c1), .val (.int c2), .val (.int c3), .unset, .unset, .unset, .unset, .unset]) rfl (XS.iload W1020.here W1020.hx rfl (hb hby at_40) rfl (XS.iload W1020.here W1020.hx rfl (hb hby at_42) rfl (XS.iload W1020.here W1020.hx rfl (hb hby at_44) rfl (XS.iload W1020.here W1020.hx rfl (hb hby at_46) rfl (XS.iload W1020.here W1020.hx rfl (hb hby at_48) rfl q9_)))))) ?_
    show Go _ _ _ _ _ _ _ _ _ (T1019.setTop (mkF m 50 #[.val (.int p0), .val (.long p1), .second, .val (.int p2), .val (.int p3), .val (.int (0 : Int32)), .val (.int c0), .val (.int c1), .val (.int c2), .val (.int c3), .unset, .unset, .unset, .unset, .unset] [(.int c3), (.int c2), (.int c1), (.int c0), (.int (0 : Int32))]))
    refine W1020.callS (y := (⟨"com/example/kontraktbuch/kontraktbuch/NotationIsDigitsPinLaw", "make", "(ICCCC)Ljava/lang/String;"⟩ : MethodName)) (wd5 hw) (wd6 hw) (wd2 hw) (wd7 hw) (by decide) (c_make0 l Z a0 hw hEL h0 W1020.old c0 c1 c2 c3 G1 PSH SG1 hG ) all0 (by decide) (by decide) (k' := 8) (n' := 40) rfl rfl (by decide) (by decide) (by rw [hml]; rfl) (argsL := [(.int (0 : Int32)), (.int c0), (.int c1), (.int c2), (.int c3)]) (rest := []) (lenOf pd_17 rfl) rfl rfl (Wt := 0) (Nat.le_of_eq rfl) (hb hby at_50) ?_
    intro v_ T1021 h1023 W1022 hq_
    obtain ⟨r, rfl, X1, SR⟩ := hq_
    refine Go.by (fun t9_ q9_ => XS.astore W1022.here W1022.hx rfl (hb hby at_53) rfl rfl (l' := #[.val (.int p0), .val (.long p1), .second, .val (.int p2), .val (.int p3), .val (.int (0 : Int32)), .val (.int c0), .val (.int c1), .val (.int c2), .val (.int c3), .val (.ref r), .unset, .unset, .unset, .unset]) rfl (XS.iloadN W1022.here W1022.hx rfl (hb hby at_55) rfl (XS.bipush W1022.here W1022.hx rfl (hb hby at_56) (XS.iand W1022.here W1022.hx rfl (hb hby at_58) rfl q9_)))) ?_
    suffices J1027 : ∀ (T1025 : State) (ff : Int32), Wk p l e room_1 s m #[(.int p0), (.long p1), (.int p2), (.int p3)] below meth c Z a0 [("java/lang/String", 7)] "com/example/kontraktbuch/kontraktbuch/NotationIsDigitsPinLaw" [] T1025 h1023 8 40 → ff = (if (p2 &&& (16 : Int32)) = (0 : Int32) then (p2 &&& (7 : Int32)) else (p2 &&& (2147483647 : Int32))) → Go p e below s Z [("java/lang/String", 7)] room_1.cells room_1.slots (fun v h' => v = some (.int 1)) (T1025.setTop (mkF m 73 #[.val (.int p0), .val (.long p1), .second, .val (.int p2), .val (.int p3), .val (.int (0 : Int32)), .val (.int c0), .val (.int c1), .val (.int c2), .val (.int c3), .val (.ref r), .unset, .unset, .unset, .unset] [(.int ff)])) by
      by_cases hj1024 : (p2 &&& (16 : Int32)) = (0 : Int32)
      · refine Go.by (fun t9_ q9_ => XS.ifYes W1022.here W1022.hx rfl (pc0 := 59) (pc' := 69) rfl (hb hby at_59) rfl ((if0 _ _).trans (teq hj1024).1) (by decide) (by decide) q9_) ?_
        refine Go.by (fun t9_ q9_ => XS.iloadN W1022.here W1022.hx rfl (hb hby at_69) rfl (XS.bipush W1022.here W1022.hx rfl (hb hby at_70) (XS.iand W1022.here W1022.hx rfl (hb hby at_72) rfl q9_))) ?_
        show Go _ _ _ _ _ _ _ _ _ (T1021.setTop (mkF m 73 #[.val (.int p0), .val (.long p1), .second, .val (.int p2), .val (.int p3), .val (.int (0 : Int32)), .val (.int c0), .val (.int c1), .val (.int c2), .val (.int c3), .val (.ref r), .unset, .unset, .unset, .unset] [(.int (p2 &&& (7 : Int32)))]))
        exact J1027 _ _ (W1022.mono (by decide) (by decide)) (by rw [if_pos hj1024])
      · refine Go.by (fun t9_ q9_ => XS.ifNo W1022.here W1022.hx rfl (hb hby at_59) rfl ((if0 _ _).trans (feq hj1024).1) q9_) ?_
        refine Go.by (fun t9_ q9_ => XS.iloadN W1022.here W1022.hx rfl (hb hby at_62) rfl q9_) ?_
        show Go _ _ _ _ _ _ _ _ _ (T1021.setTop (mkF m 63 #[.val (.int p0), .val (.long p1), .second, .val (.int p2), .val (.int p3), .val (.int (0 : Int32)), .val (.int c0), .val (.int c1), .val (.int c2), .val (.int c3), .val (.ref r), .unset, .unset, .unset, .unset] [(.int p2)]))
        refine W1022.ldcI (wd64 hw) (hb hby at_63) ?_
        refine Go.by (fun t9_ q9_ => XS.iand W1022.here W1022.hx rfl (hb hby at_65) rfl (XS.goto W1022.here W1022.hx rfl (pc0 := 66) (pc' := 73) rfl (hb hby at_66) (by decide) (by decide) q9_)) ?_
        show Go _ _ _ _ _ _ _ _ _ (T1021.setTop (mkF m 73 #[.val (.int p0), .val (.long p1), .second, .val (.int p2), .val (.int p3), .val (.int (0 : Int32)), .val (.int c0), .val (.int c1), .val (.int c2), .val (.int c3), .val (.ref r), .unset, .unset, .unset, .unset] [(.int (p2 &&& (2147483647 : Int32)))]))
        exact J1027 _ _ (W1022.mono (by decide) (by decide)) (by rw [if_neg hj1024])
    intro T1025 ff W1026 h_ff
    have hff : ¬ ff < 0 := by rw [h_ff]; exact pos_if _ _
    clear h_ff
    refine Go.by (fun t9_ q9_ => XS.istore W1026.here W1026.hx rfl (hb hby at_73) rfl (l' := #[.val (.int p0), .val (.long p1), .second, .val (.int p2), .val (.int p3), .val (.int (0 : Int32)), .val (.int c0), .val (.int c1), .val (.int c2), .val (.int c3), .val (.ref r), .val (.int ff), .unset, .unset, .unset]) rfl (XS.iload W1026.here W1026.hx rfl (hb hby at_75) rfl (XS.bipush W1026.here W1026.hx rfl (hb hby at_77) (XS.iand W1026.here W1026.hx rfl (hb hby at_79) rfl q9_)))) ?_
    obtain ⟨tt, h_tt⟩ : ∃ z : Int32, z = (if (p3 &&& (16 : Int32)) = (0 : Int32) then (p3 &&& (7 : Int32)) else p3) := ⟨_, rfl⟩
    have mg_tt : ∀ t, Steps p.tables e below (T1025.setTop (mkF m 93 #[.val (.int p0), .val (.long p1), .second, .val (.int p2), .val (.int p3), .val (.int (0 : Int32)), .val (.int c0), .val (.int c1), .val (.int c2), .val (.int c3), .val (.ref r), .val (.int ff), .unset, .unset, .unset] [(.int tt)])) t → Steps p.tables e below (T1025.setTop (mkF m 80 #[.val (.int p0), .val (.long p1), .second, .val (.int p2), .val (.int p3), .val (.int (0 : Int32)), .val (.int c0), .val (.int c1), .val (.int c2), .val (.int c3), .val (.ref r), .val (.int ff), .unset, .unset, .unset] [(.int (p3 &&& (16 : Int32)))])) t := by
      intro t q
      by_cases hm1028 : (p3 &&& (16 : Int32)) = (0 : Int32)
      · refine XS.ifYes W1026.here W1026.hx rfl (pc0 := 80) (pc' := 88) rfl (hb hby at_80) rfl ((if0 _ _).trans (teq hm1028).1) (by decide) (by decide) ?_
        show Steps p.tables e below (T1025.setTop (mkF m 88 #[.val (.int p0), .val (.long p1), .second, .val (.int p2), .val (.int p3), .val (.int (0 : Int32)), .val (.int c0), .val (.int c1), .val (.int c2), .val (.int c3), .val (.ref r), .val (.int ff), .unset, .unset, .unset] [])) _
        refine XS.iload W1026.here W1026.hx rfl (hb hby at_88) rfl ?_
        show Steps p.tables e below (T1025.setTop (mkF m 90 #[.val (.int p0), .val (.long p1), .second, .val (.int p2), .val (.int p3), .val (.int (0 : Int32)), .val (.int c0), .val (.int c1), .val (.int c2), .val (.int c3), .val (.ref r), .val (.int ff), .unset, .unset, .unset] [(.int p3)])) _
        refine XS.bipush W1026.here W1026.hx rfl (hb hby at_90) ?_
        show Steps p.tables e below (T1025.setTop (mkF m 92 #[.val (.int p0), .val (.long p1), .second, .val (.int p2), .val (.int p3), .val (.int (0 : Int32)), .val (.int c0), .val (.int c1), .val (.int c2), .val (.int c3), .val (.ref r), .val (.int ff), .unset, .unset, .unset] [(.int (7 : Int32)), (.int p3)])) _
        refine XS.iand W1026.here W1026.hx rfl (hb hby at_92) rfl ?_
        show Steps p.tables e below (T1025.setTop (mkF m 93 #[.val (.int p0), .val (.long p1), .second, .val (.int p2), .val (.int p3), .val (.int (0 : Int32)), .val (.int c0), .val (.int c1), .val (.int c2), .val (.int c3), .val (.ref r), .val (.int ff), .unset, .unset, .unset] [(.int (p3 &&& (7 : Int32)))])) _
        rw [if_pos hm1028] at h_tt
        subst h_tt
        exact q
      · refine XS.ifNo W1026.here W1026.hx rfl (hb hby at_80) rfl ((if0 _ _).trans (feq hm1028).1) ?_
        show Steps p.tables e below (T1025.setTop (mkF m 83 #[.val (.int p0), .val (.long p1), .second, .val (.int p2), .val (.int p3), .val (.int (0 : Int32)), .val (.int c0), .val (.int c1), .val (.int c2), .val (.int c3), .val (.ref r), .val (.int ff), .unset, .unset, .unset] [])) _
        refine XS.iload W1026.here W1026.hx rfl (hb hby at_83) rfl ?_
        show Steps p.tables e below (T1025.setTop (mkF m 85 #[.val (.int p0), .val (.long p1), .second, .val (.int p2), .val (.int p3), .val (.int (0 : Int32)), .val (.int c0), .val (.int c1), .val (.int c2), .val (.int c3), .val (.ref r), .val (.int ff), .unset, .unset, .unset] [(.int p3)])) _
        refine XS.goto W1026.here W1026.hx rfl (pc0 := 85) (pc' := 93) rfl (hb hby at_85) (by decide) (by decide) ?_
        show Steps p.tables e below (T1025.setTop (mkF m 93 #[.val (.int p0), .val (.long p1), .second, .val (.int p2), .val (.int p3), .val (.int (0 : Int32)), .val (.int c0), .val (.int c1), .val (.int c2), .val (.int c3), .val (.ref r), .val (.int ff), .unset, .unset, .unset] [(.int p3)])) _
        rw [if_neg hm1028] at h_tt
        subst h_tt
        exact q
    refine Go.by mg_tt ?_
    clear h_tt mg_tt
    refine Go.by (fun t9_ q9_ => XS.istore W1026.here W1026.hx rfl (hb hby at_93) rfl (l' := #[.val (.int p0), .val (.long p1), .second, .val (.int p2), .val (.int p3), .val (.int (0 : Int32)), .val (.int c0), .val (.int c1), .val (.int c2), .val (.int c3), .val (.ref r), .val (.int ff), .val (.int tt), .unset, .unset]) rfl (XS.iload W1026.here W1026.hx rfl (hb hby at_95) rfl (XS.iload W1026.here W1026.hx rfl (hb hby at_97) rfl q9_))) ?_
    suffices J1031 : ∀ (T1029 : State) (ex : Int32), Wk p l e room_1 s m #[(.int p0), (.long p1), (.int p2), (.int p3)] below meth c Z a0 [("java/lang/String", 7)] "com/example/kontraktbuch/kontraktbuch/NotationIsDigitsPinLaw" [] T1029 h1023 8 40 → (res0 ff tt) = ex → Go p e below s Z [("java/lang/String", 7)] room_1.cells room_1.slots (fun v h' => v = some (.int 1)) (T1029.setTop (mkF m 180 #[.val (.int p0), .val (.long p1), .second, .val (.int p2), .val (.int p3), .val (.int (0 : Int32)), .val (.int c0), .val (.int c1), .val (.int c2), .val (.int c3), .val (.ref r), .val (.int ff), .val (.int tt), .val (.int ex), .unset] [])) by
      by_cases h1 : ff < tt
      · refine Go.by (fun t9_ q9_ => XS.icmpYes W1026.here W1026.hx rfl (pc0 := 99) (pc' := 108) rfl (hb hby at_99) rfl (tlt h1).1 (by decide) (by decide) q9_) ?_
        refine Go.by (fun t9_ q9_ => XS.iload W1026.here W1026.hx rfl (hb hby at_108) rfl (XS.iload W1026.here W1026.hx rfl (hb hby at_110) rfl q9_)) ?_
        by_cases h2 : (0 : Int32) < tt
        · refine Go.by (fun t9_ q9_ => XS.icmpNo W1026.here W1026.hx rfl (hb hby at_112) rfl (tlt h2).2.2.2 q9_) ?_
          refine Go.by (fun t9_ q9_ => XS.iconst W1026.here W1026.hx rfl (hb hby at_115) (XS.istore W1026.here W1026.hx rfl (hb hby at_116) rfl (l' := #[.val (.int p0), .val (.long p1), .second, .val (.int p2), .val (.int p3), .val (.int (0 : Int32)), .val (.int c0), .val (.int c1), .val (.int c2), .val (.int c3), .val (.ref r), .val (.int ff), .val (.int tt), .val (.int (0 : Int32)), .unset]) rfl (XS.goto W1026.here W1026.hx rfl (pc0 := 118) (pc' := 180) rfl (hb hby at_118) (by decide) (by decide) q9_))) ?_
          exact J1031 _ _ W1026 (by unfold res0; rw [if_pos h1, if_pos h2])
        · refine Go.by (fun t9_ q9_ => XS.icmpYes W1026.here W1026.hx rfl (pc0 := 112) (pc' := 121) rfl (hb hby at_112) rfl (flt h2).2.2.2 (by decide) (by decide) q9_) ?_
          exfalso; rw [Int32.lt_iff_toInt_lt] at h1 h2 hff; have e0 : (0 : Int32).toInt = 0 := rfl; omega
      · refine Go.by (fun t9_ q9_ => XS.icmpNo W1026.here W1026.hx rfl (hb hby at_99) rfl (flt h1).1 q9_) ?_
        refine Go.by (fun t9_ q9_ => XS.iconst W1026.here W1026.hx rfl (hb hby at_102) (XS.istore W1026.here W1026.hx rfl (hb hby at_103) rfl (l' := #[.val (.int p0), .val (.long p1), .second, .val (.int p2), .val (.int p3), .val (.int (0 : Int32)), .val (.int c0), .val (.int c1), .val (.int c2), .val (.int c3), .val (.ref r), .val (.int ff), .val (.int tt), .val (.int (0 : Int32)), .unset]) rfl (XS.goto W1026.here W1026.hx rfl (pc0 := 105) (pc' := 180) rfl (hb hby at_105) (by decide) (by decide) q9_))) ?_
        exact J1031 _ _ W1026 (by unfold res0; rw [if_neg h1])
    intro T1029 ex W1030 hex
    refine Go.by (fun t9_ q9_ => XS.aload W1030.here W1030.hx rfl (hb hby at_180) rfl rfl (XS.iload W1030.here W1030.hx rfl (hb hby at_182) rfl (XS.iload W1030.here W1030.hx rfl (hb hby at_184) rfl q9_))) ?_
    show Go _ _ _ _ _ _ _ _ _ (T1029.setTop (mkF m 186 #[.val (.int p0), .val (.long p1), .second, .val (.int p2), .val (.int p3), .val (.int (0 : Int32)), .val (.int c0), .val (.int c1), .val (.int c2), .val (.int c3), .val (.ref r), .val (.int ff), .val (.int tt), .val (.int ex), .unset] [(.int tt), (.int ff), (.ref r)]))
    refine W1030.callSp (y := (⟨"com/example/kontraktbuch/kontraktbuch/Notation", "isDigits", "(Ljava/lang/String;II)Z"⟩ : MethodName)) (wd30 hw) (wd31 hw) (wd32 hw) (wd33 hw) (by decide) (c_isd0 l Z a0 hw hEL h1023 W1030.old r  ff tt G1 fm PSH SG1 hG SFM rfm SR hff) all0 (by decide) (by decide) (k' := 8) (n' := 40) rfl rfl (by decide) (by decide) (by rw [hml]; rfl) (argsL := [(.ref r), (.int ff), (.int tt)]) (rest := []) (lenOf pd_18 rfl) rfl rfl (Wt := 0) (Nat.le_of_eq rfl) (hb hby at_186) ?_
    intro T1032 W1033
    refine Go.by (fun t9_ q9_ => XS.istore W1033.here W1033.hx rfl (hb hby at_189) rfl (l' := #[.val (.int p0), .val (.long p1), .second, .val (.int p2), .val (.int p3), .val (.int (0 : Int32)), .val (.int c0), .val (.int c1), .val (.int c2), .val (.int c3), .val (.ref r), .val (.int ff), .val (.int tt), .val (.int ex), .val (.int (res0 ff tt))]) rfl (XS.iload W1033.here W1033.hx rfl (hb hby at_191) rfl (XS.iload W1033.here W1033.hx rfl (hb hby at_193) rfl q9_))) ?_
    refine Go.by (fun t9_ q9_ => XS.icmpNo W1033.here W1033.hx rfl (hb hby at_195) rfl (teq hex).2 q9_) ?_
    refine Go.by (fun t9_ q9_ => XS.iconst W1033.here W1033.hx rfl (hb hby at_198) (XS.goto W1033.here W1033.hx rfl (pc0 := 199) (pc' := 203) rfl (hb hby at_199) (by decide) (by decide) q9_)) ?_
    show Go _ _ _ _ _ _ _ _ _ (T1032.setTop (mkF m 203 #[.val (.int p0), .val (.long p1), .second, .val (.int p2), .val (.int p3), .val (.int (0 : Int32)), .val (.int c0), .val (.int c1), .val (.int c2), .val (.int c3), .val (.ref r), .val (.int ff), .val (.int tt), .val (.int ex), .val (.int (res0 ff tt))] [(.int (1 : Int32))]))
    exact W1033.retN (z' := (1 : Int32)) (by decide) (by decide) hret (by simp) (hb hby at_203) rfl rfl
  · refine Go.by (fun t9_ q9_ => XS.istore W1020.here W1020.hx rfl (hb hby at_38) rfl (l' := #[.val (.int p0), .val (.long p1), .second, .val (.int p2), .val (.int p3), .val (.int (1 : Int32)), .val (.int c0), .val (.int c1), .val (.int c2), .val (.int c3), .unset, .unset, .unset, .unset, .unset]) rfl (XS.iload W1020.here W1020.hx rfl (hb hby at_40) rfl (XS.iload W1020.here W1020.hx rfl (hb hby at_42) rfl (XS.iload W1020.here W1020.hx rfl (hb hby at_44) rfl (XS.iload W1020.here W1020.hx rfl (hb hby at_46) rfl (XS.iload W1020.here W1020.hx rfl (hb hby at_48) rfl q9_)))))) ?_
    show Go _ _ _ _ _ _ _ _ _ (T1019.setTop (mkF m 50 #[.val (.int p0), .val (.long p1), .second, .val (.int p2), .val (.int p3), .val (.int (1 : Int32)), .val (.int c0), .val (.int c1), .val (.int c2), .val (.int c3), .unset, .unset, .unset, .unset, .unset] [(.int c3), (.int c2), (.int c1), (.int c0), (.int (1 : Int32))]))
    refine W1020.callS (y := (⟨"com/example/kontraktbuch/kontraktbuch/NotationIsDigitsPinLaw", "make", "(ICCCC)Ljava/lang/String;"⟩ : MethodName)) (wd5 hw) (wd6 hw) (wd2 hw) (wd7 hw) (by decide) (c_make1 l Z a0 hw hEL h0 W1020.old c0 c1 c2 c3 G1 PSH SG1 hG r0) all0 (by decide) (by decide) (k' := 8) (n' := 40) rfl rfl (by decide) (by decide) (by rw [hml]; rfl) (argsL := [(.int (1 : Int32)), (.int c0), (.int c1), (.int c2), (.int c3)]) (rest := []) (lenOf pd_17 rfl) rfl rfl (Wt := 0) (Nat.le_of_eq rfl) (hb hby at_50) ?_
    intro v_ T1034 h1036 W1035 hq_
    obtain ⟨r, rfl, X1, SR⟩ := hq_
    refine Go.by (fun t9_ q9_ => XS.astore W1035.here W1035.hx rfl (hb hby at_53) rfl rfl (l' := #[.val (.int p0), .val (.long p1), .second, .val (.int p2), .val (.int p3), .val (.int (1 : Int32)), .val (.int c0), .val (.int c1), .val (.int c2), .val (.int c3), .val (.ref r), .unset, .unset, .unset, .unset]) rfl (XS.iloadN W1035.here W1035.hx rfl (hb hby at_55) rfl (XS.bipush W1035.here W1035.hx rfl (hb hby at_56) (XS.iand W1035.here W1035.hx rfl (hb hby at_58) rfl q9_)))) ?_
    suffices J1040 : ∀ (T1038 : State) (ff : Int32), Wk p l e room_1 s m #[(.int p0), (.long p1), (.int p2), (.int p3)] below meth c Z a0 [("java/lang/String", 7)] "com/example/kontraktbuch/kontraktbuch/NotationIsDigitsPinLaw" [] T1038 h1036 8 40 → ff = (if (p2 &&& (16 : Int32)) = (0 : Int32) then (p2 &&& (7 : Int32)) else (p2 &&& (2147483647 : Int32))) → Go p e below s Z [("java/lang/String", 7)] room_1.cells room_1.slots (fun v h' => v = some (.int 1)) (T1038.setTop (mkF m 73 #[.val (.int p0), .val (.long p1), .second, .val (.int p2), .val (.int p3), .val (.int (1 : Int32)), .val (.int c0), .val (.int c1), .val (.int c2), .val (.int c3), .val (.ref r), .unset, .unset, .unset, .unset] [(.int ff)])) by
      by_cases hj1037 : (p2 &&& (16 : Int32)) = (0 : Int32)
      · refine Go.by (fun t9_ q9_ => XS.ifYes W1035.here W1035.hx rfl (pc0 := 59) (pc' := 69) rfl (hb hby at_59) rfl ((if0 _ _).trans (teq hj1037).1) (by decide) (by decide) q9_) ?_
        refine Go.by (fun t9_ q9_ => XS.iloadN W1035.here W1035.hx rfl (hb hby at_69) rfl (XS.bipush W1035.here W1035.hx rfl (hb hby at_70) (XS.iand W1035.here W1035.hx rfl (hb hby at_72) rfl q9_))) ?_
        show Go _ _ _ _ _ _ _ _ _ (T1034.setTop (mkF m 73 #[.val (.int p0), .val (.long p1), .second, .val (.int p2), .val (.int p3), .val (.int (1 : Int32)), .val (.int c0), .val (.int c1), .val (.int c2), .val (.int c3), .val (.ref r), .unset, .unset, .unset, .unset] [(.int (p2 &&& (7 : Int32)))]))
        exact J1040 _ _ (W1035.mono (by decide) (by decide)) (by rw [if_pos hj1037])
      · refine Go.by (fun t9_ q9_ => XS.ifNo W1035.here W1035.hx rfl (hb hby at_59) rfl ((if0 _ _).trans (feq hj1037).1) q9_) ?_
        refine Go.by (fun t9_ q9_ => XS.iloadN W1035.here W1035.hx rfl (hb hby at_62) rfl q9_) ?_
        show Go _ _ _ _ _ _ _ _ _ (T1034.setTop (mkF m 63 #[.val (.int p0), .val (.long p1), .second, .val (.int p2), .val (.int p3), .val (.int (1 : Int32)), .val (.int c0), .val (.int c1), .val (.int c2), .val (.int c3), .val (.ref r), .unset, .unset, .unset, .unset] [(.int p2)]))
        refine W1035.ldcI (wd64 hw) (hb hby at_63) ?_
        refine Go.by (fun t9_ q9_ => XS.iand W1035.here W1035.hx rfl (hb hby at_65) rfl (XS.goto W1035.here W1035.hx rfl (pc0 := 66) (pc' := 73) rfl (hb hby at_66) (by decide) (by decide) q9_)) ?_
        show Go _ _ _ _ _ _ _ _ _ (T1034.setTop (mkF m 73 #[.val (.int p0), .val (.long p1), .second, .val (.int p2), .val (.int p3), .val (.int (1 : Int32)), .val (.int c0), .val (.int c1), .val (.int c2), .val (.int c3), .val (.ref r), .unset, .unset, .unset, .unset] [(.int (p2 &&& (2147483647 : Int32)))]))
        exact J1040 _ _ (W1035.mono (by decide) (by decide)) (by rw [if_neg hj1037])
    intro T1038 ff W1039 h_ff
    have hff : ¬ ff < 0 := by rw [h_ff]; exact pos_if _ _
    clear h_ff
    refine Go.by (fun t9_ q9_ => XS.istore W1039.here W1039.hx rfl (hb hby at_73) rfl (l' := #[.val (.int p0), .val (.long p1), .second, .val (.int p2), .val (.int p3), .val (.int (1 : Int32)), .val (.int c0), .val (.int c1), .val (.int c2), .val (.int c3), .val (.ref r), .val (.int ff), .unset, .unset, .unset]) rfl (XS.iload W1039.here W1039.hx rfl (hb hby at_75) rfl (XS.bipush W1039.here W1039.hx rfl (hb hby at_77) (XS.iand W1039.here W1039.hx rfl (hb hby at_79) rfl q9_)))) ?_
    obtain ⟨tt, h_tt⟩ : ∃ z : Int32, z = (if (p3 &&& (16 : Int32)) = (0 : Int32) then (p3 &&& (7 : Int32)) else p3) := ⟨_, rfl⟩
    have mg_tt : ∀ t, Steps p.tables e below (T1038.setTop (mkF m 93 #[.val (.int p0), .val (.long p1), .second, .val (.int p2), .val (.int p3), .val (.int (1 : Int32)), .val (.int c0), .val (.int c1), .val (.int c2), .val (.int c3), .val (.ref r), .val (.int ff), .unset, .unset, .unset] [(.int tt)])) t → Steps p.tables e below (T1038.setTop (mkF m 80 #[.val (.int p0), .val (.long p1), .second, .val (.int p2), .val (.int p3), .val (.int (1 : Int32)), .val (.int c0), .val (.int c1), .val (.int c2), .val (.int c3), .val (.ref r), .val (.int ff), .unset, .unset, .unset] [(.int (p3 &&& (16 : Int32)))])) t := by
      intro t q
      by_cases hm1041 : (p3 &&& (16 : Int32)) = (0 : Int32)
      · refine XS.ifYes W1039.here W1039.hx rfl (pc0 := 80) (pc' := 88) rfl (hb hby at_80) rfl ((if0 _ _).trans (teq hm1041).1) (by decide) (by decide) ?_
        show Steps p.tables e below (T1038.setTop (mkF m 88 #[.val (.int p0), .val (.long p1), .second, .val (.int p2), .val (.int p3), .val (.int (1 : Int32)), .val (.int c0), .val (.int c1), .val (.int c2), .val (.int c3), .val (.ref r), .val (.int ff), .unset, .unset, .unset] [])) _
        refine XS.iload W1039.here W1039.hx rfl (hb hby at_88) rfl ?_
        show Steps p.tables e below (T1038.setTop (mkF m 90 #[.val (.int p0), .val (.long p1), .second, .val (.int p2), .val (.int p3), .val (.int (1 : Int32)), .val (.int c0), .val (.int c1), .val (.int c2), .val (.int c3), .val (.ref r), .val (.int ff), .unset, .unset, .unset] [(.int p3)])) _
        refine XS.bipush W1039.here W1039.hx rfl (hb hby at_90) ?_
        show Steps p.tables e below (T1038.setTop (mkF m 92 #[.val (.int p0), .val (.long p1), .second, .val (.int p2), .val (.int p3), .val (.int (1 : Int32)), .val (.int c0), .val (.int c1), .val (.int c2), .val (.int c3), .val (.ref r), .val (.int ff), .unset, .unset, .unset] [(.int (7 : Int32)), (.int p3)])) _
        refine XS.iand W1039.here W1039.hx rfl (hb hby at_92) rfl ?_
        show Steps p.tables e below (T1038.setTop (mkF m 93 #[.val (.int p0), .val (.long p1), .second, .val (.int p2), .val (.int p3), .val (.int (1 : Int32)), .val (.int c0), .val (.int c1), .val (.int c2), .val (.int c3), .val (.ref r), .val (.int ff), .unset, .unset, .unset] [(.int (p3 &&& (7 : Int32)))])) _
        rw [if_pos hm1041] at h_tt
        subst h_tt
        exact q
      · refine XS.ifNo W1039.here W1039.hx rfl (hb hby at_80) rfl ((if0 _ _).trans (feq hm1041).1) ?_
        show Steps p.tables e below (T1038.setTop (mkF m 83 #[.val (.int p0), .val (.long p1), .second, .val (.int p2), .val (.int p3), .val (.int (1 : Int32)), .val (.int c0), .val (.int c1), .val (.int c2), .val (.int c3), .val (.ref r), .val (.int ff), .unset, .unset, .unset] [])) _
        refine XS.iload W1039.here W1039.hx rfl (hb hby at_83) rfl ?_
        show Steps p.tables e below (T1038.setTop (mkF m 85 #[.val (.int p0), .val (.long p1), .second, .val (.int p2), .val (.int p3), .val (.int (1 : Int32)), .val (.int c0), .val (.int c1), .val (.int c2), .val (.int c3), .val (.ref r), .val (.int ff), .unset, .unset, .unset] [(.int p3)])) _
        refine XS.goto W1039.here W1039.hx rfl (pc0 := 85) (pc' := 93) rfl (hb hby at_85) (by decide) (by decide) ?_
        show Steps p.tables e below (T1038.setTop (mkF m 93 #[.val (.int p0), .val (.long p1), .second, .val (.int p2), .val (.int p3), .val (.int (1 : Int32)), .val (.int c0), .val (.int c1), .val (.int c2), .val (.int c3), .val (.ref r), .val (.int ff), .unset, .unset, .unset] [(.int p3)])) _
        rw [if_neg hm1041] at h_tt
        subst h_tt
        exact q
    refine Go.by mg_tt ?_
    clear h_tt mg_tt
    refine Go.by (fun t9_ q9_ => XS.istore W1039.here W1039.hx rfl (hb hby at_93) rfl (l' := #[.val (.int p0), .val (.long p1), .second, .val (.int p2), .val (.int p3), .val (.int (1 : Int32)), .val (.int c0), .val (.int c1), .val (.int c2), .val (.int c3), .val (.ref r), .val (.int ff), .val (.int tt), .unset, .unset]) rfl (XS.iload W1039.here W1039.hx rfl (hb hby at_95) rfl (XS.iload W1039.here W1039.hx rfl (hb hby at_97) rfl q9_))) ?_
    suffices J1044 : ∀ (T1042 : State) (ex : Int32), Wk p l e room_1 s m #[(.int p0), (.long p1), (.int p2), (.int p3)] below meth c Z a0 [("java/lang/String", 7)] "com/example/kontraktbuch/kontraktbuch/NotationIsDigitsPinLaw" [] T1042 h1036 8 40 → (res1 c0 ff tt) = ex → Go p e below s Z [("java/lang/String", 7)] room_1.cells room_1.slots (fun v h' => v = some (.int 1)) (T1042.setTop (mkF m 180 #[.val (.int p0), .val (.long p1), .second, .val (.int p2), .val (.int p3), .val (.int (1 : Int32)), .val (.int c0), .val (.int c1), .val (.int c2), .val (.int c3), .val (.ref r), .val (.int ff), .val (.int tt), .val (.int ex), .unset] [])) by
      by_cases h1 : ff < tt
      · refine Go.by (fun t9_ q9_ => XS.icmpYes W1039.here W1039.hx rfl (pc0 := 99) (pc' := 108) rfl (hb hby at_99) rfl (tlt h1).1 (by decide) (by decide) q9_) ?_
        refine Go.by (fun t9_ q9_ => XS.iload W1039.here W1039.hx rfl (hb hby at_108) rfl (XS.iload W1039.here W1039.hx rfl (hb hby at_110) rfl q9_)) ?_
        by_cases h2 : (1 : Int32) < tt
        · refine Go.by (fun t9_ q9_ => XS.icmpNo W1039.here W1039.hx rfl (hb hby at_112) rfl (tlt h2).2.2.2 q9_) ?_
          refine Go.by (fun t9_ q9_ => XS.iconst W1039.here W1039.hx rfl (hb hby at_115) (XS.istore W1039.here W1039.hx rfl (hb hby at_116) rfl (l' := #[.val (.int p0), .val (.long p1), .second, .val (.int p2), .val (.int p3), .val (.int (1 : Int32)), .val (.int c0), .val (.int c1), .val (.int c2), .val (.int c3), .val (.ref r), .val (.int ff), .val (.int tt), .val (.int (0 : Int32)), .unset]) rfl (XS.goto W1039.here W1039.hx rfl (pc0 := 118) (pc' := 180) rfl (hb hby at_118) (by decide) (by decide) q9_))) ?_
          exact J1044 _ _ W1039 (by unfold res1; rw [if_pos h1, if_pos h2])
        · refine Go.by (fun t9_ q9_ => XS.icmpYes W1039.here W1039.hx rfl (pc0 := 112) (pc' := 121) rfl (hb hby at_112) rfl (flt h2).2.2.2 (by decide) (by decide) q9_) ?_
          have hx := exp_1 c0 c1 c2 c3 ff tt hff h1 h2
          refine Go.by (fun t9_ q9_ => XS.iload W1039.here W1039.hx rfl (hb hby at_121) rfl (XS.iconst W1039.here W1039.hx rfl (hb hby at_123) (XS.iload W1039.here W1039.hx rfl (hb hby at_124) rfl (XS.iload W1039.here W1039.hx rfl (hb hby at_126) rfl q9_)))) ?_
          show Go _ _ _ _ _ _ _ _ _ (T1038.setTop (mkF m 128 #[.val (.int p0), .val (.long p1), .second, .val (.int p2), .val (.int p3), .val (.int (1 : Int32)), .val (.int c0), .val (.int c1), .val (.int c2), .val (.int c3), .val (.ref r), .val (.int ff), .val (.int tt), .unset, .unset] [(.int tt), (.int ff), (.int (0 : Int32)), (.int c0)]))
          refine W1039.callSp (y := (⟨"com/example/kontraktbuch/kontraktbuch/NotationIsDigitsPinLaw", "fine", "(CIII)Z"⟩ : MethodName)) (wd75 hw) (wd76 hw) (wd2 hw) (wd77 hw) (by decide) (c_fine l Z a0 hw hEL h1036 W1039.old c0 (0 : Int32) ff tt) all0 (by decide) (by decide) (k' := 8) (n' := 40) rfl rfl (by decide) (by decide) (by rw [hml]; rfl) (argsL := [(.int c0), (.int (0 : Int32)), (.int ff), (.int tt)]) (rest := []) (lenOf pd_19 rfl) rfl rfl (Wt := 0) (Nat.le_of_eq rfl) (hb hby at_128) ?_
          intro T1047 W1048
          by_cases z0 : (if (0 : Int32) < ff then (1 : Int32) else if (0 : Int32) < tt then (if c0 < (48 : Int32) then (0 : Int32) else if (57 : Int32) < c0 then 0 else 1) else 1) = (0 : Int32)
          · refine Go.by (fun t9_ q9_ => XS.ifYes W1048.here W1048.hx rfl (pc0 := 131) (pc' := 177) rfl (hb hby at_131) rfl ((if0 _ _).trans (teq z0).1) (by decide) (by decide) q9_) ?_
            refine Go.by (fun t9_ q9_ => XS.iconst W1048.here W1048.hx rfl (hb hby at_177) (XS.istore W1048.here W1048.hx rfl (hb hby at_178) rfl (l' := #[.val (.int p0), .val (.long p1), .second, .val (.int p2), .val (.int p3), .val (.int (1 : Int32)), .val (.int c0), .val (.int c1), .val (.int c2), .val (.int c3), .val (.ref r), .val (.int ff), .val (.int tt), .val (.int (0 : Int32)), .unset]) rfl q9_)) ?_
            exact J1044 _ _ W1048 (by rw [hx]; exact if_pos (Or.inl z0))
          · refine Go.by (fun t9_ q9_ => XS.ifNo W1048.here W1048.hx rfl (hb hby at_131) rfl ((if0 _ _).trans (feq z0).1) q9_) ?_
            refine Go.by (fun t9_ q9_ => XS.iload W1048.here W1048.hx rfl (hb hby at_134) rfl (XS.iconst W1048.here W1048.hx rfl (hb hby at_136) (XS.iload W1048.here W1048.hx rfl (hb hby at_137) rfl (XS.iload W1048.here W1048.hx rfl (hb hby at_139) rfl q9_)))) ?_
            show Go _ _ _ _ _ _ _ _ _ (T1047.setTop (mkF m 141 #[.val (.int p0), .val (.long p1), .second, .val (.int p2), .val (.int p3), .val (.int (1 : Int32)), .val (.int c0), .val (.int c1), .val (.int c2), .val (.int c3), .val (.ref r), .val (.int ff), .val (.int tt), .unset, .unset] [(.int tt), (.int ff), (.int (1 : Int32)), (.int c1)]))
            refine W1048.callSp (y := (⟨"com/example/kontraktbuch/kontraktbuch/NotationIsDigitsPinLaw", "fine", "(CIII)Z"⟩ : MethodName)) (wd75 hw) (wd76 hw) (wd2 hw) (wd77 hw) (by decide) (c_fine l Z a0 hw hEL h1036 W1048.old c1 (1 : Int32) ff tt) all0 (by decide) (by decide) (k' := 8) (n' := 40) rfl rfl (by decide) (by decide) (by rw [hml]; rfl) (argsL := [(.int c1), (.int (1 : Int32)), (.int ff), (.int tt)]) (rest := []) (lenOf pd_19 rfl) rfl rfl (Wt := 0) (Nat.le_of_eq rfl) (hb hby at_141) ?_
            intro T1049 W1050
            by_cases z1 : (if (1 : Int32) < ff then (1 : Int32) else if (1 : Int32) < tt then (if c1 < (48 : Int32) then (0 : Int32) else if (57 : Int32) < c1 then 0 else 1) else 1) = (0 : Int32)
            · refine Go.by (fun t9_ q9_ => XS.ifYes W1050.here W1050.hx rfl (pc0 := 144) (pc' := 177) rfl (hb hby at_144) rfl ((if0 _ _).trans (teq z1).1) (by decide) (by decide) q9_) ?_
              refine Go.by (fun t9_ q9_ => XS.iconst W1050.here W1050.hx rfl (hb hby at_177) (XS.istore W1050.here W1050.hx rfl (hb hby at_178) rfl (l' := #[.val (.int p0), .val (.long p1), .second, .val (.int p2), .val (.int p3), .val (.int (1 : Int32)), .val (.int c0), .val (.int c1), .val (.int c2), .val (.int c3), .val (.ref r), .val (.int ff), .val (.int tt), .val (.int (0 : Int32)), .unset]) rfl q9_)) ?_
              exact J1044 _ _ W1050 (by rw [hx]; exact if_pos (Or.inr (Or.inl z1)))
            · refine Go.by (fun t9_ q9_ => XS.ifNo W1050.here W1050.hx rfl (hb hby at_144) rfl ((if0 _ _).trans (feq z1).1) q9_) ?_
              refine Go.by (fun t9_ q9_ => XS.iload W1050.here W1050.hx rfl (hb hby at_147) rfl (XS.iconst W1050.here W1050.hx rfl (hb hby at_149) (XS.iload W1050.here W1050.hx rfl (hb hby at_150) rfl (XS.iload W1050.here W1050.hx rfl (hb hby at_152) rfl q9_)))) ?_
              show Go _ _ _ _ _ _ _ _ _ (T1049.setTop (mkF m 154 #[.val (.int p0), .val (.long p1), .second, .val (.int p2), .val (.int p3), .val (.int (1 : Int32)), .val (.int c0), .val (.int c1), .val (.int c2), .val (.int c3), .val (.ref r), .val (.int ff), .val (.int tt), .unset, .unset] [(.int tt), (.int ff), (.int (2 : Int32)), (.int c2)]))
              refine W1050.callSp (y := (⟨"com/example/kontraktbuch/kontraktbuch/NotationIsDigitsPinLaw", "fine", "(CIII)Z"⟩ : MethodName)) (wd75 hw) (wd76 hw) (wd2 hw) (wd77 hw) (by decide) (c_fine l Z a0 hw hEL h1036 W1050.old c2 (2 : Int32) ff tt) all0 (by decide) (by decide) (k' := 8) (n' := 40) rfl rfl (by decide) (by decide) (by rw [hml]; rfl) (argsL := [(.int c2), (.int (2 : Int32)), (.int ff), (.int tt)]) (rest := []) (lenOf pd_19 rfl) rfl rfl (Wt := 0) (Nat.le_of_eq rfl) (hb hby at_154) ?_
              intro T1051 W1052
              by_cases z2 : (if (2 : Int32) < ff then (1 : Int32) else if (2 : Int32) < tt then (if c2 < (48 : Int32) then (0 : Int32) else if (57 : Int32) < c2 then 0 else 1) else 1) = (0 : Int32)
              · refine Go.by (fun t9_ q9_ => XS.ifYes W1052.here W1052.hx rfl (pc0 := 157) (pc' := 177) rfl (hb hby at_157) rfl ((if0 _ _).trans (teq z2).1) (by decide) (by decide) q9_) ?_
                refine Go.by (fun t9_ q9_ => XS.iconst W1052.here W1052.hx rfl (hb hby at_177) (XS.istore W1052.here W1052.hx rfl (hb hby at_178) rfl (l' := #[.val (.int p0), .val (.long p1), .second, .val (.int p2), .val (.int p3), .val (.int (1 : Int32)), .val (.int c0), .val (.int c1), .val (.int c2), .val (.int c3), .val (.ref r), .val (.int ff), .val (.int tt), .val (.int (0 : Int32)), .unset]) rfl q9_)) ?_
                exact J1044 _ _ W1052 (by rw [hx]; exact if_pos (Or.inr (Or.inr (Or.inl z2))))
              · refine Go.by (fun t9_ q9_ => XS.ifNo W1052.here W1052.hx rfl (hb hby at_157) rfl ((if0 _ _).trans (feq z2).1) q9_) ?_
                refine Go.by (fun t9_ q9_ => XS.iload W1052.here W1052.hx rfl (hb hby at_160) rfl (XS.iconst W1052.here W1052.hx rfl (hb hby at_162) (XS.iload W1052.here W1052.hx rfl (hb hby at_163) rfl (XS.iload W1052.here W1052.hx rfl (hb hby at_165) rfl q9_)))) ?_
                show Go _ _ _ _ _ _ _ _ _ (T1051.setTop (mkF m 167 #[.val (.int p0), .val (.long p1), .second, .val (.int p2), .val (.int p3), .val (.int (1 : Int32)), .val (.int c0), .val (.int c1), .val (.int c2), .val (.int c3), .val (.ref r), .val (.int ff), .val (.int tt), .unset, .unset] [(.int tt), (.int ff), (.int (3 : Int32)), (.int c3)]))
                refine W1052.callSp (y := (⟨"com/example/kontraktbuch/kontraktbuch/NotationIsDigitsPinLaw", "fine", "(CIII)Z"⟩ : MethodName)) (wd75 hw) (wd76 hw) (wd2 hw) (wd77 hw) (by decide) (c_fine l Z a0 hw hEL h1036 W1052.old c3 (3 : Int32) ff tt) all0 (by decide) (by decide) (k' := 8) (n' := 40) rfl rfl (by decide) (by decide) (by rw [hml]; rfl) (argsL := [(.int c3), (.int (3 : Int32)), (.int ff), (.int tt)]) (rest := []) (lenOf pd_19 rfl) rfl rfl (Wt := 0) (Nat.le_of_eq rfl) (hb hby at_167) ?_
                intro T1053 W1054
                by_cases z3 : (if (3 : Int32) < ff then (1 : Int32) else if (3 : Int32) < tt then (if c3 < (48 : Int32) then (0 : Int32) else if (57 : Int32) < c3 then 0 else 1) else 1) = (0 : Int32)
                · refine Go.by (fun t9_ q9_ => XS.ifYes W1054.here W1054.hx rfl (pc0 := 170) (pc' := 177) rfl (hb hby at_170) rfl ((if0 _ _).trans (teq z3).1) (by decide) (by decide) q9_) ?_
                  refine Go.by (fun t9_ q9_ => XS.iconst W1054.here W1054.hx rfl (hb hby at_177) (XS.istore W1054.here W1054.hx rfl (hb hby at_178) rfl (l' := #[.val (.int p0), .val (.long p1), .second, .val (.int p2), .val (.int p3), .val (.int (1 : Int32)), .val (.int c0), .val (.int c1), .val (.int c2), .val (.int c3), .val (.ref r), .val (.int ff), .val (.int tt), .val (.int (0 : Int32)), .unset]) rfl q9_)) ?_
                  exact J1044 _ _ W1054 (by rw [hx]; exact if_pos (Or.inr (Or.inr (Or.inr (z3)))))
                · refine Go.by (fun t9_ q9_ => XS.ifNo W1054.here W1054.hx rfl (hb hby at_170) rfl ((if0 _ _).trans (feq z3).1) q9_) ?_
                  refine Go.by (fun t9_ q9_ => XS.iconst W1054.here W1054.hx rfl (hb hby at_173) (XS.goto W1054.here W1054.hx rfl (pc0 := 174) (pc' := 178) rfl (hb hby at_174) (by decide) (by decide) (XS.istore W1054.here W1054.hx rfl (hb hby at_178) rfl (l' := #[.val (.int p0), .val (.long p1), .second, .val (.int p2), .val (.int p3), .val (.int (1 : Int32)), .val (.int c0), .val (.int c1), .val (.int c2), .val (.int c3), .val (.ref r), .val (.int ff), .val (.int tt), .val (.int (1 : Int32)), .unset]) rfl q9_))) ?_
                  exact J1044 _ _ W1054 (by rw [hx]; exact if_neg (fun y => by rcases y with y | y | y | y; exact z0 y; exact z1 y; exact z2 y; exact z3 y))
      · refine Go.by (fun t9_ q9_ => XS.icmpNo W1039.here W1039.hx rfl (hb hby at_99) rfl (flt h1).1 q9_) ?_
        refine Go.by (fun t9_ q9_ => XS.iconst W1039.here W1039.hx rfl (hb hby at_102) (XS.istore W1039.here W1039.hx rfl (hb hby at_103) rfl (l' := #[.val (.int p0), .val (.long p1), .second, .val (.int p2), .val (.int p3), .val (.int (1 : Int32)), .val (.int c0), .val (.int c1), .val (.int c2), .val (.int c3), .val (.ref r), .val (.int ff), .val (.int tt), .val (.int (0 : Int32)), .unset]) rfl (XS.goto W1039.here W1039.hx rfl (pc0 := 105) (pc' := 180) rfl (hb hby at_105) (by decide) (by decide) q9_))) ?_
        exact J1044 _ _ W1039 (by unfold res1; rw [if_neg h1])
    intro T1042 ex W1043 hex
    refine Go.by (fun t9_ q9_ => XS.aload W1043.here W1043.hx rfl (hb hby at_180) rfl rfl (XS.iload W1043.here W1043.hx rfl (hb hby at_182) rfl (XS.iload W1043.here W1043.hx rfl (hb hby at_184) rfl q9_))) ?_
    show Go _ _ _ _ _ _ _ _ _ (T1042.setTop (mkF m 186 #[.val (.int p0), .val (.long p1), .second, .val (.int p2), .val (.int p3), .val (.int (1 : Int32)), .val (.int c0), .val (.int c1), .val (.int c2), .val (.int c3), .val (.ref r), .val (.int ff), .val (.int tt), .val (.int ex), .unset] [(.int tt), (.int ff), (.ref r)]))
    refine W1043.callSp (y := (⟨"com/example/kontraktbuch/kontraktbuch/Notation", "isDigits", "(Ljava/lang/String;II)Z"⟩ : MethodName)) (wd30 hw) (wd31 hw) (wd32 hw) (wd33 hw) (by decide) (c_isd1 l Z a0 hw hEL h1036 W1043.old r c0 ff tt G1 fm PSH SG1 hG SFM rfm SR hff) all0 (by decide) (by decide) (k' := 8) (n' := 40) rfl rfl (by decide) (by decide) (by rw [hml]; rfl) (argsL := [(.ref r), (.int ff), (.int tt)]) (rest := []) (lenOf pd_18 rfl) rfl rfl (Wt := 0) (Nat.le_of_eq rfl) (hb hby at_186) ?_
    intro T1045 W1046
    refine Go.by (fun t9_ q9_ => XS.istore W1046.here W1046.hx rfl (hb hby at_189) rfl (l' := #[.val (.int p0), .val (.long p1), .second, .val (.int p2), .val (.int p3), .val (.int (1 : Int32)), .val (.int c0), .val (.int c1), .val (.int c2), .val (.int c3), .val (.ref r), .val (.int ff), .val (.int tt), .val (.int ex), .val (.int (res1 c0 ff tt))]) rfl (XS.iload W1046.here W1046.hx rfl (hb hby at_191) rfl (XS.iload W1046.here W1046.hx rfl (hb hby at_193) rfl q9_))) ?_
    refine Go.by (fun t9_ q9_ => XS.icmpNo W1046.here W1046.hx rfl (hb hby at_195) rfl (teq hex).2 q9_) ?_
    refine Go.by (fun t9_ q9_ => XS.iconst W1046.here W1046.hx rfl (hb hby at_198) (XS.goto W1046.here W1046.hx rfl (pc0 := 199) (pc' := 203) rfl (hb hby at_199) (by decide) (by decide) q9_)) ?_
    show Go _ _ _ _ _ _ _ _ _ (T1045.setTop (mkF m 203 #[.val (.int p0), .val (.long p1), .second, .val (.int p2), .val (.int p3), .val (.int (1 : Int32)), .val (.int c0), .val (.int c1), .val (.int c2), .val (.int c3), .val (.ref r), .val (.int ff), .val (.int tt), .val (.int ex), .val (.int (res1 c0 ff tt))] [(.int (1 : Int32))]))
    exact W1046.retN (z' := (1 : Int32)) (by decide) (by decide) hret (by simp) (hb hby at_203) rfl rfl
  · refine Go.by (fun t9_ q9_ => XS.istore W1020.here W1020.hx rfl (hb hby at_38) rfl (l' := #[.val (.int p0), .val (.long p1), .second, .val (.int p2), .val (.int p3), .val (.int (2 : Int32)), .val (.int c0), .val (.int c1), .val (.int c2), .val (.int c3), .unset, .unset, .unset, .unset, .unset]) rfl (XS.iload W1020.here W1020.hx rfl (hb hby at_40) rfl (XS.iload W1020.here W1020.hx rfl (hb hby at_42) rfl (XS.iload W1020.here W1020.hx rfl (hb hby at_44) rfl (XS.iload W1020.here W1020.hx rfl (hb hby at_46) rfl (XS.iload W1020.here W1020.hx rfl (hb hby at_48) rfl q9_)))))) ?_
    show Go _ _ _ _ _ _ _ _ _ (T1019.setTop (mkF m 50 #[.val (.int p0), .val (.long p1), .second, .val (.int p2), .val (.int p3), .val (.int (2 : Int32)), .val (.int c0), .val (.int c1), .val (.int c2), .val (.int c3), .unset, .unset, .unset, .unset, .unset] [(.int c3), (.int c2), (.int c1), (.int c0), (.int (2 : Int32))]))
    refine W1020.callS (y := (⟨"com/example/kontraktbuch/kontraktbuch/NotationIsDigitsPinLaw", "make", "(ICCCC)Ljava/lang/String;"⟩ : MethodName)) (wd5 hw) (wd6 hw) (wd2 hw) (wd7 hw) (by decide) (c_make2 l Z a0 hw hEL h0 W1020.old c0 c1 c2 c3 G1 PSH SG1 hG r0 r1) all0 (by decide) (by decide) (k' := 8) (n' := 40) rfl rfl (by decide) (by decide) (by rw [hml]; rfl) (argsL := [(.int (2 : Int32)), (.int c0), (.int c1), (.int c2), (.int c3)]) (rest := []) (lenOf pd_17 rfl) rfl rfl (Wt := 0) (Nat.le_of_eq rfl) (hb hby at_50) ?_
    intro v_ T1055 h1057 W1056 hq_
    obtain ⟨r, rfl, X1, SR⟩ := hq_
    refine Go.by (fun t9_ q9_ => XS.astore W1056.here W1056.hx rfl (hb hby at_53) rfl rfl (l' := #[.val (.int p0), .val (.long p1), .second, .val (.int p2), .val (.int p3), .val (.int (2 : Int32)), .val (.int c0), .val (.int c1), .val (.int c2), .val (.int c3), .val (.ref r), .unset, .unset, .unset, .unset]) rfl (XS.iloadN W1056.here W1056.hx rfl (hb hby at_55) rfl (XS.bipush W1056.here W1056.hx rfl (hb hby at_56) (XS.iand W1056.here W1056.hx rfl (hb hby at_58) rfl q9_)))) ?_
    suffices J1061 : ∀ (T1059 : State) (ff : Int32), Wk p l e room_1 s m #[(.int p0), (.long p1), (.int p2), (.int p3)] below meth c Z a0 [("java/lang/String", 7)] "com/example/kontraktbuch/kontraktbuch/NotationIsDigitsPinLaw" [] T1059 h1057 8 40 → ff = (if (p2 &&& (16 : Int32)) = (0 : Int32) then (p2 &&& (7 : Int32)) else (p2 &&& (2147483647 : Int32))) → Go p e below s Z [("java/lang/String", 7)] room_1.cells room_1.slots (fun v h' => v = some (.int 1)) (T1059.setTop (mkF m 73 #[.val (.int p0), .val (.long p1), .second, .val (.int p2), .val (.int p3), .val (.int (2 : Int32)), .val (.int c0), .val (.int c1), .val (.int c2), .val (.int c3), .val (.ref r), .unset, .unset, .unset, .unset] [(.int ff)])) by
      by_cases hj1058 : (p2 &&& (16 : Int32)) = (0 : Int32)
      · refine Go.by (fun t9_ q9_ => XS.ifYes W1056.here W1056.hx rfl (pc0 := 59) (pc' := 69) rfl (hb hby at_59) rfl ((if0 _ _).trans (teq hj1058).1) (by decide) (by decide) q9_) ?_
        refine Go.by (fun t9_ q9_ => XS.iloadN W1056.here W1056.hx rfl (hb hby at_69) rfl (XS.bipush W1056.here W1056.hx rfl (hb hby at_70) (XS.iand W1056.here W1056.hx rfl (hb hby at_72) rfl q9_))) ?_
        show Go _ _ _ _ _ _ _ _ _ (T1055.setTop (mkF m 73 #[.val (.int p0), .val (.long p1), .second, .val (.int p2), .val (.int p3), .val (.int (2 : Int32)), .val (.int c0), .val (.int c1), .val (.int c2), .val (.int c3), .val (.ref r), .unset, .unset, .unset, .unset] [(.int (p2 &&& (7 : Int32)))]))
        exact J1061 _ _ (W1056.mono (by decide) (by decide)) (by rw [if_pos hj1058])
      · refine Go.by (fun t9_ q9_ => XS.ifNo W1056.here W1056.hx rfl (hb hby at_59) rfl ((if0 _ _).trans (feq hj1058).1) q9_) ?_
        refine Go.by (fun t9_ q9_ => XS.iloadN W1056.here W1056.hx rfl (hb hby at_62) rfl q9_) ?_
        show Go _ _ _ _ _ _ _ _ _ (T1055.setTop (mkF m 63 #[.val (.int p0), .val (.long p1), .second, .val (.int p2), .val (.int p3), .val (.int (2 : Int32)), .val (.int c0), .val (.int c1), .val (.int c2), .val (.int c3), .val (.ref r), .unset, .unset, .unset, .unset] [(.int p2)]))
        refine W1056.ldcI (wd64 hw) (hb hby at_63) ?_
        refine Go.by (fun t9_ q9_ => XS.iand W1056.here W1056.hx rfl (hb hby at_65) rfl (XS.goto W1056.here W1056.hx rfl (pc0 := 66) (pc' := 73) rfl (hb hby at_66) (by decide) (by decide) q9_)) ?_
        show Go _ _ _ _ _ _ _ _ _ (T1055.setTop (mkF m 73 #[.val (.int p0), .val (.long p1), .second, .val (.int p2), .val (.int p3), .val (.int (2 : Int32)), .val (.int c0), .val (.int c1), .val (.int c2), .val (.int c3), .val (.ref r), .unset, .unset, .unset, .unset] [(.int (p2 &&& (2147483647 : Int32)))]))
        exact J1061 _ _ (W1056.mono (by decide) (by decide)) (by rw [if_neg hj1058])
    intro T1059 ff W1060 h_ff
    have hff : ¬ ff < 0 := by rw [h_ff]; exact pos_if _ _
    clear h_ff
    refine Go.by (fun t9_ q9_ => XS.istore W1060.here W1060.hx rfl (hb hby at_73) rfl (l' := #[.val (.int p0), .val (.long p1), .second, .val (.int p2), .val (.int p3), .val (.int (2 : Int32)), .val (.int c0), .val (.int c1), .val (.int c2), .val (.int c3), .val (.ref r), .val (.int ff), .unset, .unset, .unset]) rfl (XS.iload W1060.here W1060.hx rfl (hb hby at_75) rfl (XS.bipush W1060.here W1060.hx rfl (hb hby at_77) (XS.iand W1060.here W1060.hx rfl (hb hby at_79) rfl q9_)))) ?_
    obtain ⟨tt, h_tt⟩ : ∃ z : Int32, z = (if (p3 &&& (16 : Int32)) = (0 : Int32) then (p3 &&& (7 : Int32)) else p3) := ⟨_, rfl⟩
    have mg_tt : ∀ t, Steps p.tables e below (T1059.setTop (mkF m 93 #[.val (.int p0), .val (.long p1), .second, .val (.int p2), .val (.int p3), .val (.int (2 : Int32)), .val (.int c0), .val (.int c1), .val (.int c2), .val (.int c3), .val (.ref r), .val (.int ff), .unset, .unset, .unset] [(.int tt)])) t → Steps p.tables e below (T1059.setTop (mkF m 80 #[.val (.int p0), .val (.long p1), .second, .val (.int p2), .val (.int p3), .val (.int (2 : Int32)), .val (.int c0), .val (.int c1), .val (.int c2), .val (.int c3), .val (.ref r), .val (.int ff), .unset, .unset, .unset] [(.int (p3 &&& (16 : Int32)))])) t := by
      intro t q
      by_cases hm1062 : (p3 &&& (16 : Int32)) = (0 : Int32)
      · refine XS.ifYes W1060.here W1060.hx rfl (pc0 := 80) (pc' := 88) rfl (hb hby at_80) rfl ((if0 _ _).trans (teq hm1062).1) (by decide) (by decide) ?_
        show Steps p.tables e below (T1059.setTop (mkF m 88 #[.val (.int p0), .val (.long p1), .second, .val (.int p2), .val (.int p3), .val (.int (2 : Int32)), .val (.int c0), .val (.int c1), .val (.int c2), .val (.int c3), .val (.ref r), .val (.int ff), .unset, .unset, .unset] [])) _
        refine XS.iload W1060.here W1060.hx rfl (hb hby at_88) rfl ?_
        show Steps p.tables e below (T1059.setTop (mkF m 90 #[.val (.int p0), .val (.long p1), .second, .val (.int p2), .val (.int p3), .val (.int (2 : Int32)), .val (.int c0), .val (.int c1), .val (.int c2), .val (.int c3), .val (.ref r), .val (.int ff), .unset, .unset, .unset] [(.int p3)])) _
        refine XS.bipush W1060.here W1060.hx rfl (hb hby at_90) ?_
        show Steps p.tables e below (T1059.setTop (mkF m 92 #[.val (.int p0), .val (.long p1), .second, .val (.int p2), .val (.int p3), .val (.int (2 : Int32)), .val (.int c0), .val (.int c1), .val (.int c2), .val (.int c3), .val (.ref r), .val (.int ff), .unset, .unset, .unset] [(.int (7 : Int32)), (.int p3)])) _
        refine XS.iand W1060.here W1060.hx rfl (hb hby at_92) rfl ?_
        show Steps p.tables e below (T1059.setTop (mkF m 93 #[.val (.int p0), .val (.long p1), .second, .val (.int p2), .val (.int p3), .val (.int (2 : Int32)), .val (.int c0), .val (.int c1), .val (.int c2), .val (.int c3), .val (.ref r), .val (.int ff), .unset, .unset, .unset] [(.int (p3 &&& (7 : Int32)))])) _
        rw [if_pos hm1062] at h_tt
        subst h_tt
        exact q
      · refine XS.ifNo W1060.here W1060.hx rfl (hb hby at_80) rfl ((if0 _ _).trans (feq hm1062).1) ?_
        show Steps p.tables e below (T1059.setTop (mkF m 83 #[.val (.int p0), .val (.long p1), .second, .val (.int p2), .val (.int p3), .val (.int (2 : Int32)), .val (.int c0), .val (.int c1), .val (.int c2), .val (.int c3), .val (.ref r), .val (.int ff), .unset, .unset, .unset] [])) _
        refine XS.iload W1060.here W1060.hx rfl (hb hby at_83) rfl ?_
        show Steps p.tables e below (T1059.setTop (mkF m 85 #[.val (.int p0), .val (.long p1), .second, .val (.int p2), .val (.int p3), .val (.int (2 : Int32)), .val (.int c0), .val (.int c1), .val (.int c2), .val (.int c3), .val (.ref r), .val (.int ff), .unset, .unset, .unset] [(.int p3)])) _
        refine XS.goto W1060.here W1060.hx rfl (pc0 := 85) (pc' := 93) rfl (hb hby at_85) (by decide) (by decide) ?_
        show Steps p.tables e below (T1059.setTop (mkF m 93 #[.val (.int p0), .val (.long p1), .second, .val (.int p2), .val (.int p3), .val (.int (2 : Int32)), .val (.int c0), .val (.int c1), .val (.int c2), .val (.int c3), .val (.ref r), .val (.int ff), .unset, .unset, .unset] [(.int p3)])) _
        rw [if_neg hm1062] at h_tt
        subst h_tt
        exact q
    refine Go.by mg_tt ?_
    clear h_tt mg_tt
    refine Go.by (fun t9_ q9_ => XS.istore W1060.here W1060.hx rfl (hb hby at_93) rfl (l' := #[.val (.int p0), .val (.long p1), .second, .val (.int p2), .val (.int p3), .val (.int (2 : Int32)), .val (.int c0), .val (.int c1), .val (.int c2), .val (.int c3), .val (.ref r), .val (.int ff), .val (.int tt), .unset, .unset]) rfl (XS.iload W1060.here W1060.hx rfl (hb hby at_95) rfl (XS.iload W1060.here W1060.hx rfl (hb hby at_97) rfl q9_))) ?_
    suffices J1065 : ∀ (T1063 : State) (ex : Int32), Wk p l e room_1 s m #[(.int p0), (.long p1), (.int p2), (.int p3)] below meth c Z a0 [("java/lang/String", 7)] "com/example/kontraktbuch/kontraktbuch/NotationIsDigitsPinLaw" [] T1063 h1057 8 40 → (res2 c0 c1 ff tt) = ex → Go p e below s Z [("java/lang/String", 7)] room_1.cells room_1.slots (fun v h' => v = some (.int 1)) (T1063.setTop (mkF m 180 #[.val (.int p0), .val (.long p1), .second, .val (.int p2), .val (.int p3), .val (.int (2 : Int32)), .val (.int c0), .val (.int c1), .val (.int c2), .val (.int c3), .val (.ref r), .val (.int ff), .val (.int tt), .val (.int ex), .unset] [])) by
      by_cases h1 : ff < tt
      · refine Go.by (fun t9_ q9_ => XS.icmpYes W1060.here W1060.hx rfl (pc0 := 99) (pc' := 108) rfl (hb hby at_99) rfl (tlt h1).1 (by decide) (by decide) q9_) ?_
        refine Go.by (fun t9_ q9_ => XS.iload W1060.here W1060.hx rfl (hb hby at_108) rfl (XS.iload W1060.here W1060.hx rfl (hb hby at_110) rfl q9_)) ?_
        by_cases h2 : (2 : Int32) < tt
        · refine Go.by (fun t9_ q9_ => XS.icmpNo W1060.here W1060.hx rfl (hb hby at_112) rfl (tlt h2).2.2.2 q9_) ?_
          refine Go.by (fun t9_ q9_ => XS.iconst W1060.here W1060.hx rfl (hb hby at_115) (XS.istore W1060.here W1060.hx rfl (hb hby at_116) rfl (l' := #[.val (.int p0), .val (.long p1), .second, .val (.int p2), .val (.int p3), .val (.int (2 : Int32)), .val (.int c0), .val (.int c1), .val (.int c2), .val (.int c3), .val (.ref r), .val (.int ff), .val (.int tt), .val (.int (0 : Int32)), .unset]) rfl (XS.goto W1060.here W1060.hx rfl (pc0 := 118) (pc' := 180) rfl (hb hby at_118) (by decide) (by decide) q9_))) ?_
          exact J1065 _ _ W1060 (by unfold res2; rw [if_pos h1, if_pos h2])
        · refine Go.by (fun t9_ q9_ => XS.icmpYes W1060.here W1060.hx rfl (pc0 := 112) (pc' := 121) rfl (hb hby at_112) rfl (flt h2).2.2.2 (by decide) (by decide) q9_) ?_
          have hx := exp_2 c0 c1 c2 c3 ff tt hff h1 h2
          refine Go.by (fun t9_ q9_ => XS.iload W1060.here W1060.hx rfl (hb hby at_121) rfl (XS.iconst W1060.here W1060.hx rfl (hb hby at_123) (XS.iload W1060.here W1060.hx rfl (hb hby at_124) rfl (XS.iload W1060.here W1060.hx rfl (hb hby at_126) rfl q9_)))) ?_
          show Go _ _ _ _ _ _ _ _ _ (T1059.setTop (mkF m 128 #[.val (.int p0), .val (.long p1), .second, .val (.int p2), .val (.int p3), .val (.int (2 : Int32)), .val (.int c0), .val (.int c1), .val (.int c2), .val (.int c3), .val (.ref r), .val (.int ff), .val (.int tt), .unset, .unset] [(.int tt), (.int ff), (.int (0 : Int32)), (.int c0)]))
          refine W1060.callSp (y := (⟨"com/example/kontraktbuch/kontraktbuch/NotationIsDigitsPinLaw", "fine", "(CIII)Z"⟩ : MethodName)) (wd75 hw) (wd76 hw) (wd2 hw) (wd77 hw) (by decide) (c_fine l Z a0 hw hEL h1057 W1060.old c0 (0 : Int32) ff tt) all0 (by decide) (by decide) (k' := 8) (n' := 40) rfl rfl (by decide) (by decide) (by rw [hml]; rfl) (argsL := [(.int c0), (.int (0 : Int32)), (.int ff), (.int tt)]) (rest := []) (lenOf pd_19 rfl) rfl rfl (Wt := 0) (Nat.le_of_eq rfl) (hb hby at_128) ?_
          intro T1068 W1069
          by_cases z0 : (if (0 : Int32) < ff then (1 : Int32) else if (0 : Int32) < tt then (if c0 < (48 : Int32) then (0 : Int32) else if (57 : Int32) < c0 then 0 else 1) else 1) = (0 : Int32)
          · refine Go.by (fun t9_ q9_ => XS.ifYes W1069.here W1069.hx rfl (pc0 := 131) (pc' := 177) rfl (hb hby at_131) rfl ((if0 _ _).trans (teq z0).1) (by decide) (by decide) q9_) ?_
            refine Go.by (fun t9_ q9_ => XS.iconst W1069.here W1069.hx rfl (hb hby at_177) (XS.istore W1069.here W1069.hx rfl (hb hby at_178) rfl (l' := #[.val (.int p0), .val (.long p1), .second, .val (.int p2), .val (.int p3), .val (.int (2 : Int32)), .val (.int c0), .val (.int c1), .val (.int c2), .val (.int c3), .val (.ref r), .val (.int ff), .val (.int tt), .val (.int (0 : Int32)), .unset]) rfl q9_)) ?_
            exact J1065 _ _ W1069 (by rw [hx]; exact if_pos (Or.inl z0))
          · refine Go.by (fun t9_ q9_ => XS.ifNo W1069.here W1069.hx rfl (hb hby at_131) rfl ((if0 _ _).trans (feq z0).1) q9_) ?_
            refine Go.by (fun t9_ q9_ => XS.iload W1069.here W1069.hx rfl (hb hby at_134) rfl (XS.iconst W1069.here W1069.hx rfl (hb hby at_136) (XS.iload W1069.here W1069.hx rfl (hb hby at_137) rfl (XS.iload W1069.here W1069.hx rfl (hb hby at_139) rfl q9_)))) ?_
            show Go _ _ _ _ _ _ _ _ _ (T1068.setTop (mkF m 141 #[.val (.int p0), .val (.long p1), .second, .val (.int p2), .val (.int p3), .val (.int (2 : Int32)), .val (.int c0), .val (.int c1), .val (.int c2), .val (.int c3), .val (.ref r), .val (.int ff), .val (.int tt), .unset, .unset] [(.int tt), (.int ff), (.int (1 : Int32)), (.int c1)]))
            refine W1069.callSp (y := (⟨"com/example/kontraktbuch/kontraktbuch/NotationIsDigitsPinLaw", "fine", "(CIII)Z"⟩ : MethodName)) (wd75 hw) (wd76 hw) (wd2 hw) (wd77 hw) (by decide) (c_fine l Z a0 hw hEL h1057 W1069.old c1 (1 : Int32) ff tt) all0 (by decide) (by decide) (k' := 8) (n' := 40) rfl rfl (by decide) (by decide) (by rw [hml]; rfl) (argsL := [(.int c1), (.int (1 : Int32)), (.int ff), (.int tt)]) (rest := []) (lenOf pd_19 rfl) rfl rfl (Wt := 0) (Nat.le_of_eq rfl) (hb hby at_141) ?_
            intro T1070 W1071
            by_cases z1 : (if (1 : Int32) < ff then (1 : Int32) else if (1 : Int32) < tt then (if c1 < (48 : Int32) then (0 : Int32) else if (57 : Int32) < c1 then 0 else 1) else 1) = (0 : Int32)
            · refine Go.by (fun t9_ q9_ => XS.ifYes W1071.here W1071.hx rfl (pc0 := 144) (pc' := 177) rfl (hb hby at_144) rfl ((if0 _ _).trans (teq z1).1) (by decide) (by decide) q9_) ?_
              refine Go.by (fun t9_ q9_ => XS.iconst W1071.here W1071.hx rfl (hb hby at_177) (XS.istore W1071.here W1071.hx rfl (hb hby at_178) rfl (l' := #[.val (.int p0), .val (.long p1), .second, .val (.int p2), .val (.int p3), .val (.int (2 : Int32)), .val (.int c0), .val (.int c1), .val (.int c2), .val (.int c3), .val (.ref r), .val (.int ff), .val (.int tt), .val (.int (0 : Int32)), .unset]) rfl q9_)) ?_
              exact J1065 _ _ W1071 (by rw [hx]; exact if_pos (Or.inr (Or.inl z1)))
            · refine Go.by (fun t9_ q9_ => XS.ifNo W1071.here W1071.hx rfl (hb hby at_144) rfl ((if0 _ _).trans (feq z1).1) q9_) ?_
              refine Go.by (fun t9_ q9_ => XS.iload W1071.here W1071.hx rfl (hb hby at_147) rfl (XS.iconst W1071.here W1071.hx rfl (hb hby at_149) (XS.iload W1071.here W1071.hx rfl (hb hby at_150) rfl (XS.iload W1071.here W1071.hx rfl (hb hby at_152) rfl q9_)))) ?_
              show Go _ _ _ _ _ _ _ _ _ (T1070.setTop (mkF m 154 #[.val (.int p0), .val (.long p1), .second, .val (.int p2), .val (.int p3), .val (.int (2 : Int32)), .val (.int c0), .val (.int c1), .val (.int c2), .val (.int c3), .val (.ref r), .val (.int ff), .val (.int tt), .unset, .unset] [(.int tt), (.int ff), (.int (2 : Int32)), (.int c2)]))
              refine W1071.callSp (y := (⟨"com/example/kontraktbuch/kontraktbuch/NotationIsDigitsPinLaw", "fine", "(CIII)Z"⟩ : MethodName)) (wd75 hw) (wd76 hw) (wd2 hw) (wd77 hw) (by decide) (c_fine l Z a0 hw hEL h1057 W1071.old c2 (2 : Int32) ff tt) all0 (by decide) (by decide) (k' := 8) (n' := 40) rfl rfl (by decide) (by decide) (by rw [hml]; rfl) (argsL := [(.int c2), (.int (2 : Int32)), (.int ff), (.int tt)]) (rest := []) (lenOf pd_19 rfl) rfl rfl (Wt := 0) (Nat.le_of_eq rfl) (hb hby at_154) ?_
              intro T1072 W1073
              by_cases z2 : (if (2 : Int32) < ff then (1 : Int32) else if (2 : Int32) < tt then (if c2 < (48 : Int32) then (0 : Int32) else if (57 : Int32) < c2 then 0 else 1) else 1) = (0 : Int32)
              · refine Go.by (fun t9_ q9_ => XS.ifYes W1073.here W1073.hx rfl (pc0 := 157) (pc' := 177) rfl (hb hby at_157) rfl ((if0 _ _).trans (teq z2).1) (by decide) (by decide) q9_) ?_
                refine Go.by (fun t9_ q9_ => XS.iconst W1073.here W1073.hx rfl (hb hby at_177) (XS.istore W1073.here W1073.hx rfl (hb hby at_178) rfl (l' := #[.val (.int p0), .val (.long p1), .second, .val (.int p2), .val (.int p3), .val (.int (2 : Int32)), .val (.int c0), .val (.int c1), .val (.int c2), .val (.int c3), .val (.ref r), .val (.int ff), .val (.int tt), .val (.int (0 : Int32)), .unset]) rfl q9_)) ?_
                exact J1065 _ _ W1073 (by rw [hx]; exact if_pos (Or.inr (Or.inr (Or.inl z2))))
              · refine Go.by (fun t9_ q9_ => XS.ifNo W1073.here W1073.hx rfl (hb hby at_157) rfl ((if0 _ _).trans (feq z2).1) q9_) ?_
                refine Go.by (fun t9_ q9_ => XS.iload W1073.here W1073.hx rfl (hb hby at_160) rfl (XS.iconst W1073.here W1073.hx rfl (hb hby at_162) (XS.iload W1073.here W1073.hx rfl (hb hby at_163) rfl (XS.iload W1073.here W1073.hx rfl (hb hby at_165) rfl q9_)))) ?_
                show Go _ _ _ _ _ _ _ _ _ (T1072.setTop (mkF m 167 #[.val (.int p0), .val (.long p1), .second, .val (.int p2), .val (.int p3), .val (.int (2 : Int32)), .val (.int c0), .val (.int c1), .val (.int c2), .val (.int c3), .val (.ref r), .val (.int ff), .val (.int tt), .unset, .unset] [(.int tt), (.int ff), (.int (3 : Int32)), (.int c3)]))
                refine W1073.callSp (y := (⟨"com/example/kontraktbuch/kontraktbuch/NotationIsDigitsPinLaw", "fine", "(CIII)Z"⟩ : MethodName)) (wd75 hw) (wd76 hw) (wd2 hw) (wd77 hw) (by decide) (c_fine l Z a0 hw hEL h1057 W1073.old c3 (3 : Int32) ff tt) all0 (by decide) (by decide) (k' := 8) (n' := 40) rfl rfl (by decide) (by decide) (by rw [hml]; rfl) (argsL := [(.int c3), (.int (3 : Int32)), (.int ff), (.int tt)]) (rest := []) (lenOf pd_19 rfl) rfl rfl (Wt := 0) (Nat.le_of_eq rfl) (hb hby at_167) ?_
                intro T1074 W1075
                by_cases z3 : (if (3 : Int32) < ff then (1 : Int32) else if (3 : Int32) < tt then (if c3 < (48 : Int32) then (0 : Int32) else if (57 : Int32) < c3 then 0 else 1) else 1) = (0 : Int32)
                · refine Go.by (fun t9_ q9_ => XS.ifYes W1075.here W1075.hx rfl (pc0 := 170) (pc' := 177) rfl (hb hby at_170) rfl ((if0 _ _).trans (teq z3).1) (by decide) (by decide) q9_) ?_
                  refine Go.by (fun t9_ q9_ => XS.iconst W1075.here W1075.hx rfl (hb hby at_177) (XS.istore W1075.here W1075.hx rfl (hb hby at_178) rfl (l' := #[.val (.int p0), .val (.long p1), .second, .val (.int p2), .val (.int p3), .val (.int (2 : Int32)), .val (.int c0), .val (.int c1), .val (.int c2), .val (.int c3), .val (.ref r), .val (.int ff), .val (.int tt), .val (.int (0 : Int32)), .unset]) rfl q9_)) ?_
                  exact J1065 _ _ W1075 (by rw [hx]; exact if_pos (Or.inr (Or.inr (Or.inr (z3)))))
                · refine Go.by (fun t9_ q9_ => XS.ifNo W1075.here W1075.hx rfl (hb hby at_170) rfl ((if0 _ _).trans (feq z3).1) q9_) ?_
                  refine Go.by (fun t9_ q9_ => XS.iconst W1075.here W1075.hx rfl (hb hby at_173) (XS.goto W1075.here W1075.hx rfl (pc0 := 174) (pc' := 178) rfl (hb hby at_174) (by decide) (by decide) (XS.istore W1075.here W1075.hx rfl (hb hby at_178) rfl (l' := #[.val (.int p0), .val (.long p1), .second, .val (.int p2), .val (.int p3), .val (.int (2 : Int32)), .val (.int c0), .val (.int c1), .val (.int c2), .val (.int c3), .val (.ref r), .val (.int ff), .val (.int tt), .val (.int (1 : Int32)), .unset]) rfl q9_))) ?_
                  exact J1065 _ _ W1075 (by rw [hx]; exact if_neg (fun y => by rcases y with y | y | y | y; exact z0 y; exact z1 y; exact z2 y; exact z3 y))
      · refine Go.by (fun t9_ q9_ => XS.icmpNo W1060.here W1060.hx rfl (hb hby at_99) rfl (flt h1).1 q9_) ?_
        refine Go.by (fun t9_ q9_ => XS.iconst W1060.here W1060.hx rfl (hb hby at_102) (XS.istore W1060.here W1060.hx rfl (hb hby at_103) rfl (l' := #[.val (.int p0), .val (.long p1), .second, .val (.int p2), .val (.int p3), .val (.int (2 : Int32)), .val (.int c0), .val (.int c1), .val (.int c2), .val (.int c3), .val (.ref r), .val (.int ff), .val (.int tt), .val (.int (0 : Int32)), .unset]) rfl (XS.goto W1060.here W1060.hx rfl (pc0 := 105) (pc' := 180) rfl (hb hby at_105) (by decide) (by decide) q9_))) ?_
        exact J1065 _ _ W1060 (by unfold res2; rw [if_neg h1])
    intro T1063 ex W1064 hex
    refine Go.by (fun t9_ q9_ => XS.aload W1064.here W1064.hx rfl (hb hby at_180) rfl rfl (XS.iload W1064.here W1064.hx rfl (hb hby at_182) rfl (XS.iload W1064.here W1064.hx rfl (hb hby at_184) rfl q9_))) ?_
    show Go _ _ _ _ _ _ _ _ _ (T1063.setTop (mkF m 186 #[.val (.int p0), .val (.long p1), .second, .val (.int p2), .val (.int p3), .val (.int (2 : Int32)), .val (.int c0), .val (.int c1), .val (.int c2), .val (.int c3), .val (.ref r), .val (.int ff), .val (.int tt), .val (.int ex), .unset] [(.int tt), (.int ff), (.ref r)]))
    refine W1064.callSp (y := (⟨"com/example/kontraktbuch/kontraktbuch/Notation", "isDigits", "(Ljava/lang/String;II)Z"⟩ : MethodName)) (wd30 hw) (wd31 hw) (wd32 hw) (wd33 hw) (by decide) (c_isd2 l Z a0 hw hEL h1057 W1064.old r c0 c1 ff tt G1 fm PSH SG1 hG SFM rfm SR hff) all0 (by decide) (by decide) (k' := 8) (n' := 40) rfl rfl (by decide) (by decide) (by rw [hml]; rfl) (argsL := [(.ref r), (.int ff), (.int tt)]) (rest := []) (lenOf pd_18 rfl) rfl rfl (Wt := 0) (Nat.le_of_eq rfl) (hb hby at_186) ?_
    intro T1066 W1067
    refine Go.by (fun t9_ q9_ => XS.istore W1067.here W1067.hx rfl (hb hby at_189) rfl (l' := #[.val (.int p0), .val (.long p1), .second, .val (.int p2), .val (.int p3), .val (.int (2 : Int32)), .val (.int c0), .val (.int c1), .val (.int c2), .val (.int c3), .val (.ref r), .val (.int ff), .val (.int tt), .val (.int ex), .val (.int (res2 c0 c1 ff tt))]) rfl (XS.iload W1067.here W1067.hx rfl (hb hby at_191) rfl (XS.iload W1067.here W1067.hx rfl (hb hby at_193) rfl q9_))) ?_
    refine Go.by (fun t9_ q9_ => XS.icmpNo W1067.here W1067.hx rfl (hb hby at_195) rfl (teq hex).2 q9_) ?_
    refine Go.by (fun t9_ q9_ => XS.iconst W1067.here W1067.hx rfl (hb hby at_198) (XS.goto W1067.here W1067.hx rfl (pc0 := 199) (pc' := 203) rfl (hb hby at_199) (by decide) (by decide) q9_)) ?_
    show Go _ _ _ _ _ _ _ _ _ (T1066.setTop (mkF m 203 #[.val (.int p0), .val (.long p1), .second, .val (.int p2), .val (.int p3), .val (.int (2 : Int32)), .val (.int c0), .val (.int c1), .val (.int c2), .val (.int c3), .val (.ref r), .val (.int ff), .val (.int tt), .val (.int ex), .val (.int (res2 c0 c1 ff tt))] [(.int (1 : Int32))]))
    exact W1067.retN (z' := (1 : Int32)) (by decide) (by decide) hret (by simp) (hb hby at_203) rfl rfl
  · refine Go.by (fun t9_ q9_ => XS.istore W1020.here W1020.hx rfl (hb hby at_38) rfl (l' := #[.val (.int p0), .val (.long p1), .second, .val (.int p2), .val (.int p3), .val (.int (3 : Int32)), .val (.int c0), .val (.int c1), .val (.int c2), .val (.int c3), .unset, .unset, .unset, .unset, .unset]) rfl (XS.iload W1020.here W1020.hx rfl (hb hby at_40) rfl (XS.iload W1020.here W1020.hx rfl (hb hby at_42) rfl (XS.iload W1020.here W1020.hx rfl (hb hby at_44) rfl (XS.iload W1020.here W1020.hx rfl (hb hby at_46) rfl (XS.iload W1020.here W1020.hx rfl (hb hby at_48) rfl q9_)))))) ?_
    show Go _ _ _ _ _ _ _ _ _ (T1019.setTop (mkF m 50 #[.val (.int p0), .val (.long p1), .second, .val (.int p2), .val (.int p3), .val (.int (3 : Int32)), .val (.int c0), .val (.int c1), .val (.int c2), .val (.int c3), .unset, .unset, .unset, .unset, .unset] [(.int c3), (.int c2), (.int c1), (.int c0), (.int (3 : Int32))]))
    refine W1020.callS (y := (⟨"com/example/kontraktbuch/kontraktbuch/NotationIsDigitsPinLaw", "make", "(ICCCC)Ljava/lang/String;"⟩ : MethodName)) (wd5 hw) (wd6 hw) (wd2 hw) (wd7 hw) (by decide) (c_make3 l Z a0 hw hEL h0 W1020.old c0 c1 c2 c3 G1 PSH SG1 hG r0 r1 r2) all0 (by decide) (by decide) (k' := 8) (n' := 40) rfl rfl (by decide) (by decide) (by rw [hml]; rfl) (argsL := [(.int (3 : Int32)), (.int c0), (.int c1), (.int c2), (.int c3)]) (rest := []) (lenOf pd_17 rfl) rfl rfl (Wt := 0) (Nat.le_of_eq rfl) (hb hby at_50) ?_
    intro v_ T1076 h1078 W1077 hq_
    obtain ⟨r, rfl, X1, SR⟩ := hq_
    refine Go.by (fun t9_ q9_ => XS.astore W1077.here W1077.hx rfl (hb hby at_53) rfl rfl (l' := #[.val (.int p0), .val (.long p1), .second, .val (.int p2), .val (.int p3), .val (.int (3 : Int32)), .val (.int c0), .val (.int c1), .val (.int c2), .val (.int c3), .val (.ref r), .unset, .unset, .unset, .unset]) rfl (XS.iloadN W1077.here W1077.hx rfl (hb hby at_55) rfl (XS.bipush W1077.here W1077.hx rfl (hb hby at_56) (XS.iand W1077.here W1077.hx rfl (hb hby at_58) rfl q9_)))) ?_
    suffices J1082 : ∀ (T1080 : State) (ff : Int32), Wk p l e room_1 s m #[(.int p0), (.long p1), (.int p2), (.int p3)] below meth c Z a0 [("java/lang/String", 7)] "com/example/kontraktbuch/kontraktbuch/NotationIsDigitsPinLaw" [] T1080 h1078 8 40 → ff = (if (p2 &&& (16 : Int32)) = (0 : Int32) then (p2 &&& (7 : Int32)) else (p2 &&& (2147483647 : Int32))) → Go p e below s Z [("java/lang/String", 7)] room_1.cells room_1.slots (fun v h' => v = some (.int 1)) (T1080.setTop (mkF m 73 #[.val (.int p0), .val (.long p1), .second, .val (.int p2), .val (.int p3), .val (.int (3 : Int32)), .val (.int c0), .val (.int c1), .val (.int c2), .val (.int c3), .val (.ref r), .unset, .unset, .unset, .unset] [(.int ff)])) by
      by_cases hj1079 : (p2 &&& (16 : Int32)) = (0 : Int32)
      · refine Go.by (fun t9_ q9_ => XS.ifYes W1077.here W1077.hx rfl (pc0 := 59) (pc' := 69) rfl (hb hby at_59) rfl ((if0 _ _).trans (teq hj1079).1) (by decide) (by decide) q9_) ?_
        refine Go.by (fun t9_ q9_ => XS.iloadN W1077.here W1077.hx rfl (hb hby at_69) rfl (XS.bipush W1077.here W1077.hx rfl (hb hby at_70) (XS.iand W1077.here W1077.hx rfl (hb hby at_72) rfl q9_))) ?_
        show Go _ _ _ _ _ _ _ _ _ (T1076.setTop (mkF m 73 #[.val (.int p0), .val (.long p1), .second, .val (.int p2), .val (.int p3), .val (.int (3 : Int32)), .val (.int c0), .val (.int c1), .val (.int c2), .val (.int c3), .val (.ref r), .unset, .unset, .unset, .unset] [(.int (p2 &&& (7 : Int32)))]))
        exact J1082 _ _ (W1077.mono (by decide) (by decide)) (by rw [if_pos hj1079])
      · refine Go.by (fun t9_ q9_ => XS.ifNo W1077.here W1077.hx rfl (hb hby at_59) rfl ((if0 _ _).trans (feq hj1079).1) q9_) ?_
        refine Go.by (fun t9_ q9_ => XS.iloadN W1077.here W1077.hx rfl (hb hby at_62) rfl q9_) ?_
        show Go _ _ _ _ _ _ _ _ _ (T1076.setTop (mkF m 63 #[.val (.int p0), .val (.long p1), .second, .val (.int p2), .val (.int p3), .val (.int (3 : Int32)), .val (.int c0), .val (.int c1), .val (.int c2), .val (.int c3), .val (.ref r), .unset, .unset, .unset, .unset] [(.int p2)]))
        refine W1077.ldcI (wd64 hw) (hb hby at_63) ?_
        refine Go.by (fun t9_ q9_ => XS.iand W1077.here W1077.hx rfl (hb hby at_65) rfl (XS.goto W1077.here W1077.hx rfl (pc0 := 66) (pc' := 73) rfl (hb hby at_66) (by decide) (by decide) q9_)) ?_
        show Go _ _ _ _ _ _ _ _ _ (T1076.setTop (mkF m 73 #[.val (.int p0), .val (.long p1), .second, .val (.int p2), .val (.int p3), .val (.int (3 : Int32)), .val (.int c0), .val (.int c1), .val (.int c2), .val (.int c3), .val (.ref r), .unset, .unset, .unset, .unset] [(.int (p2 &&& (2147483647 : Int32)))]))
        exact J1082 _ _ (W1077.mono (by decide) (by decide)) (by rw [if_neg hj1079])
    intro T1080 ff W1081 h_ff
    have hff : ¬ ff < 0 := by rw [h_ff]; exact pos_if _ _
    clear h_ff
    refine Go.by (fun t9_ q9_ => XS.istore W1081.here W1081.hx rfl (hb hby at_73) rfl (l' := #[.val (.int p0), .val (.long p1), .second, .val (.int p2), .val (.int p3), .val (.int (3 : Int32)), .val (.int c0), .val (.int c1), .val (.int c2), .val (.int c3), .val (.ref r), .val (.int ff), .unset, .unset, .unset]) rfl (XS.iload W1081.here W1081.hx rfl (hb hby at_75) rfl (XS.bipush W1081.here W1081.hx rfl (hb hby at_77) (XS.iand W1081.here W1081.hx rfl (hb hby at_79) rfl q9_)))) ?_
    obtain ⟨tt, h_tt⟩ : ∃ z : Int32, z = (if (p3 &&& (16 : Int32)) = (0 : Int32) then (p3 &&& (7 : Int32)) else p3) := ⟨_, rfl⟩
    have mg_tt : ∀ t, Steps p.tables e below (T1080.setTop (mkF m 93 #[.val (.int p0), .val (.long p1), .second, .val (.int p2), .val (.int p3), .val (.int (3 : Int32)), .val (.int c0), .val (.int c1), .val (.int c2), .val (.int c3), .val (.ref r), .val (.int ff), .unset, .unset, .unset] [(.int tt)])) t → Steps p.tables e below (T1080.setTop (mkF m 80 #[.val (.int p0), .val (.long p1), .second, .val (.int p2), .val (.int p3), .val (.int (3 : Int32)), .val (.int c0), .val (.int c1), .val (.int c2), .val (.int c3), .val (.ref r), .val (.int ff), .unset, .unset, .unset] [(.int (p3 &&& (16 : Int32)))])) t := by
      intro t q
      by_cases hm1083 : (p3 &&& (16 : Int32)) = (0 : Int32)
      · refine XS.ifYes W1081.here W1081.hx rfl (pc0 := 80) (pc' := 88) rfl (hb hby at_80) rfl ((if0 _ _).trans (teq hm1083).1) (by decide) (by decide) ?_
        show Steps p.tables e below (T1080.setTop (mkF m 88 #[.val (.int p0), .val (.long p1), .second, .val (.int p2), .val (.int p3), .val (.int (3 : Int32)), .val (.int c0), .val (.int c1), .val (.int c2), .val (.int c3), .val (.ref r), .val (.int ff), .unset, .unset, .unset] [])) _
        refine XS.iload W1081.here W1081.hx rfl (hb hby at_88) rfl ?_
        show Steps p.tables e below (T1080.setTop (mkF m 90 #[.val (.int p0), .val (.long p1), .second, .val (.int p2), .val (.int p3), .val (.int (3 : Int32)), .val (.int c0), .val (.int c1), .val (.int c2), .val (.int c3), .val (.ref r), .val (.int ff), .unset, .unset, .unset] [(.int p3)])) _
        refine XS.bipush W1081.here W1081.hx rfl (hb hby at_90) ?_
        show Steps p.tables e below (T1080.setTop (mkF m 92 #[.val (.int p0), .val (.long p1), .second, .val (.int p2), .val (.int p3), .val (.int (3 : Int32)), .val (.int c0), .val (.int c1), .val (.int c2), .val (.int c3), .val (.ref r), .val (.int ff), .unset, .unset, .unset] [(.int (7 : Int32)), (.int p3)])) _
        refine XS.iand W1081.here W1081.hx rfl (hb hby at_92) rfl ?_
        show Steps p.tables e below (T1080.setTop (mkF m 93 #[.val (.int p0), .val (.long p1), .second, .val (.int p2), .val (.int p3), .val (.int (3 : Int32)), .val (.int c0), .val (.int c1), .val (.int c2), .val (.int c3), .val (.ref r), .val (.int ff), .unset, .unset, .unset] [(.int (p3 &&& (7 : Int32)))])) _
        rw [if_pos hm1083] at h_tt
        subst h_tt
        exact q
      · refine XS.ifNo W1081.here W1081.hx rfl (hb hby at_80) rfl ((if0 _ _).trans (feq hm1083).1) ?_
        show Steps p.tables e below (T1080.setTop (mkF m 83 #[.val (.int p0), .val (.long p1), .second, .val (.int p2), .val (.int p3), .val (.int (3 : Int32)), .val (.int c0), .val (.int c1), .val (.int c2), .val (.int c3), .val (.ref r), .val (.int ff), .unset, .unset, .unset] [])) _
        refine XS.iload W1081.here W1081.hx rfl (hb hby at_83) rfl ?_
        show Steps p.tables e below (T1080.setTop (mkF m 85 #[.val (.int p0), .val (.long p1), .second, .val (.int p2), .val (.int p3), .val (.int (3 : Int32)), .val (.int c0), .val (.int c1), .val (.int c2), .val (.int c3), .val (.ref r), .val (.int ff), .unset, .unset, .unset] [(.int p3)])) _
        refine XS.goto W1081.here W1081.hx rfl (pc0 := 85) (pc' := 93) rfl (hb hby at_85) (by decide) (by decide) ?_
        show Steps p.tables e below (T1080.setTop (mkF m 93 #[.val (.int p0), .val (.long p1), .second, .val (.int p2), .val (.int p3), .val (.int (3 : Int32)), .val (.int c0), .val (.int c1), .val (.int c2), .val (.int c3), .val (.ref r), .val (.int ff), .unset, .unset, .unset] [(.int p3)])) _
        rw [if_neg hm1083] at h_tt
        subst h_tt
        exact q
    refine Go.by mg_tt ?_
    clear h_tt mg_tt
    refine Go.by (fun t9_ q9_ => XS.istore W1081.here W1081.hx rfl (hb hby at_93) rfl (l' := #[.val (.int p0), .val (.long p1), .second, .val (.int p2), .val (.int p3), .val (.int (3 : Int32)), .val (.int c0), .val (.int c1), .val (.int c2), .val (.int c3), .val (.ref r), .val (.int ff), .val (.int tt), .unset, .unset]) rfl (XS.iload W1081.here W1081.hx rfl (hb hby at_95) rfl (XS.iload W1081.here W1081.hx rfl (hb hby at_97) rfl q9_))) ?_
    suffices J1086 : ∀ (T1084 : State) (ex : Int32), Wk p l e room_1 s m #[(.int p0), (.long p1), (.int p2), (.int p3)] below meth c Z a0 [("java/lang/String", 7)] "com/example/kontraktbuch/kontraktbuch/NotationIsDigitsPinLaw" [] T1084 h1078 8 40 → (res3 c0 c1 c2 ff tt) = ex → Go p e below s Z [("java/lang/String", 7)] room_1.cells room_1.slots (fun v h' => v = some (.int 1)) (T1084.setTop (mkF m 180 #[.val (.int p0), .val (.long p1), .second, .val (.int p2), .val (.int p3), .val (.int (3 : Int32)), .val (.int c0), .val (.int c1), .val (.int c2), .val (.int c3), .val (.ref r), .val (.int ff), .val (.int tt), .val (.int ex), .unset] [])) by
      by_cases h1 : ff < tt
      · refine Go.by (fun t9_ q9_ => XS.icmpYes W1081.here W1081.hx rfl (pc0 := 99) (pc' := 108) rfl (hb hby at_99) rfl (tlt h1).1 (by decide) (by decide) q9_) ?_
        refine Go.by (fun t9_ q9_ => XS.iload W1081.here W1081.hx rfl (hb hby at_108) rfl (XS.iload W1081.here W1081.hx rfl (hb hby at_110) rfl q9_)) ?_
        by_cases h2 : (3 : Int32) < tt
        · refine Go.by (fun t9_ q9_ => XS.icmpNo W1081.here W1081.hx rfl (hb hby at_112) rfl (tlt h2).2.2.2 q9_) ?_
          refine Go.by (fun t9_ q9_ => XS.iconst W1081.here W1081.hx rfl (hb hby at_115) (XS.istore W1081.here W1081.hx rfl (hb hby at_116) rfl (l' := #[.val (.int p0), .val (.long p1), .second, .val (.int p2), .val (.int p3), .val (.int (3 : Int32)), .val (.int c0), .val (.int c1), .val (.int c2), .val (.int c3), .val (.ref r), .val (.int ff), .val (.int tt), .val (.int (0 : Int32)), .unset]) rfl (XS.goto W1081.here W1081.hx rfl (pc0 := 118) (pc' := 180) rfl (hb hby at_118) (by decide) (by decide) q9_))) ?_
          exact J1086 _ _ W1081 (by unfold res3; rw [if_pos h1, if_pos h2])
        · refine Go.by (fun t9_ q9_ => XS.icmpYes W1081.here W1081.hx rfl (pc0 := 112) (pc' := 121) rfl (hb hby at_112) rfl (flt h2).2.2.2 (by decide) (by decide) q9_) ?_
          have hx := exp_3 c0 c1 c2 c3 ff tt hff h1 h2
          refine Go.by (fun t9_ q9_ => XS.iload W1081.here W1081.hx rfl (hb hby at_121) rfl (XS.iconst W1081.here W1081.hx rfl (hb hby at_123) (XS.iload W1081.here W1081.hx rfl (hb hby at_124) rfl (XS.iload W1081.here W1081.hx rfl (hb hby at_126) rfl q9_)))) ?_
          show Go _ _ _ _ _ _ _ _ _ (T1080.setTop (mkF m 128 #[.val (.int p0), .val (.long p1), .second, .val (.int p2), .val (.int p3), .val (.int (3 : Int32)), .val (.int c0), .val (.int c1), .val (.int c2), .val (.int c3), .val (.ref r), .val (.int ff), .val (.int tt), .unset, .unset] [(.int tt), (.int ff), (.int (0 : Int32)), (.int c0)]))
          refine W1081.callSp (y := (⟨"com/example/kontraktbuch/kontraktbuch/NotationIsDigitsPinLaw", "fine", "(CIII)Z"⟩ : MethodName)) (wd75 hw) (wd76 hw) (wd2 hw) (wd77 hw) (by decide) (c_fine l Z a0 hw hEL h1078 W1081.old c0 (0 : Int32) ff tt) all0 (by decide) (by decide) (k' := 8) (n' := 40) rfl rfl (by decide) (by decide) (by rw [hml]; rfl) (argsL := [(.int c0), (.int (0 : Int32)), (.int ff), (.int tt)]) (rest := []) (lenOf pd_19 rfl) rfl rfl (Wt := 0) (Nat.le_of_eq rfl) (hb hby at_128) ?_
          intro T1089 W1090
          by_cases z0 : (if (0 : Int32) < ff then (1 : Int32) else if (0 : Int32) < tt then (if c0 < (48 : Int32) then (0 : Int32) else if (57 : Int32) < c0 then 0 else 1) else 1) = (0 : Int32)
          · refine Go.by (fun t9_ q9_ => XS.ifYes W1090.here W1090.hx rfl (pc0 := 131) (pc' := 177) rfl (hb hby at_131) rfl ((if0 _ _).trans (teq z0).1) (by decide) (by decide) q9_) ?_
            refine Go.by (fun t9_ q9_ => XS.iconst W1090.here W1090.hx rfl (hb hby at_177) (XS.istore W1090.here W1090.hx rfl (hb hby at_178) rfl (l' := #[.val (.int p0), .val (.long p1), .second, .val (.int p2), .val (.int p3), .val (.int (3 : Int32)), .val (.int c0), .val (.int c1), .val (.int c2), .val (.int c3), .val (.ref r), .val (.int ff), .val (.int tt), .val (.int (0 : Int32)), .unset]) rfl q9_)) ?_
            exact J1086 _ _ W1090 (by rw [hx]; exact if_pos (Or.inl z0))
          · refine Go.by (fun t9_ q9_ => XS.ifNo W1090.here W1090.hx rfl (hb hby at_131) rfl ((if0 _ _).trans (feq z0).1) q9_) ?_
            refine Go.by (fun t9_ q9_ => XS.iload W1090.here W1090.hx rfl (hb hby at_134) rfl (XS.iconst W1090.here W1090.hx rfl (hb hby at_136) (XS.iload W1090.here W1090.hx rfl (hb hby at_137) rfl (XS.iload W1090.here W1090.hx rfl (hb hby at_139) rfl q9_)))) ?_
            show Go _ _ _ _ _ _ _ _ _ (T1089.setTop (mkF m 141 #[.val (.int p0), .val (.long p1), .second, .val (.int p2), .val (.int p3), .val (.int (3 : Int32)), .val (.int c0), .val (.int c1), .val (.int c2), .val (.int c3), .val (.ref r), .val (.int ff), .val (.int tt), .unset, .unset] [(.int tt), (.int ff), (.int (1 : Int32)), (.int c1)]))
            refine W1090.callSp (y := (⟨"com/example/kontraktbuch/kontraktbuch/NotationIsDigitsPinLaw", "fine", "(CIII)Z"⟩ : MethodName)) (wd75 hw) (wd76 hw) (wd2 hw) (wd77 hw) (by decide) (c_fine l Z a0 hw hEL h1078 W1090.old c1 (1 : Int32) ff tt) all0 (by decide) (by decide) (k' := 8) (n' := 40) rfl rfl (by decide) (by decide) (by rw [hml]; rfl) (argsL := [(.int c1), (.int (1 : Int32)), (.int ff), (.int tt)]) (rest := []) (lenOf pd_19 rfl) rfl rfl (Wt := 0) (Nat.le_of_eq rfl) (hb hby at_141) ?_
            intro T1091 W1092
            by_cases z1 : (if (1 : Int32) < ff then (1 : Int32) else if (1 : Int32) < tt then (if c1 < (48 : Int32) then (0 : Int32) else if (57 : Int32) < c1 then 0 else 1) else 1) = (0 : Int32)
            · refine Go.by (fun t9_ q9_ => XS.ifYes W1092.here W1092.hx rfl (pc0 := 144) (pc' := 177) rfl (hb hby at_144) rfl ((if0 _ _).trans (teq z1).1) (by decide) (by decide) q9_) ?_
              refine Go.by (fun t9_ q9_ => XS.iconst W1092.here W1092.hx rfl (hb hby at_177) (XS.istore W1092.here W1092.hx rfl (hb hby at_178) rfl (l' := #[.val (.int p0), .val (.long p1), .second, .val (.int p2), .val (.int p3), .val (.int (3 : Int32)), .val (.int c0), .val (.int c1), .val (.int c2), .val (.int c3), .val (.ref r), .val (.int ff), .val (.int tt), .val (.int (0 : Int32)), .unset]) rfl q9_)) ?_
              exact J1086 _ _ W1092 (by rw [hx]; exact if_pos (Or.inr (Or.inl z1)))
            · refine Go.by (fun t9_ q9_ => XS.ifNo W1092.here W1092.hx rfl (hb hby at_144) rfl ((if0 _ _).trans (feq z1).1) q9_) ?_
              refine Go.by (fun t9_ q9_ => XS.iload W1092.here W1092.hx rfl (hb hby at_147) rfl (XS.iconst W1092.here W1092.hx rfl (hb hby at_149) (XS.iload W1092.here W1092.hx rfl (hb hby at_150) rfl (XS.iload W1092.here W1092.hx rfl (hb hby at_152) rfl q9_)))) ?_
              show Go _ _ _ _ _ _ _ _ _ (T1091.setTop (mkF m 154 #[.val (.int p0), .val (.long p1), .second, .val (.int p2), .val (.int p3), .val (.int (3 : Int32)), .val (.int c0), .val (.int c1), .val (.int c2), .val (.int c3), .val (.ref r), .val (.int ff), .val (.int tt), .unset, .unset] [(.int tt), (.int ff), (.int (2 : Int32)), (.int c2)]))
              refine W1092.callSp (y := (⟨"com/example/kontraktbuch/kontraktbuch/NotationIsDigitsPinLaw", "fine", "(CIII)Z"⟩ : MethodName)) (wd75 hw) (wd76 hw) (wd2 hw) (wd77 hw) (by decide) (c_fine l Z a0 hw hEL h1078 W1092.old c2 (2 : Int32) ff tt) all0 (by decide) (by decide) (k' := 8) (n' := 40) rfl rfl (by decide) (by decide) (by rw [hml]; rfl) (argsL := [(.int c2), (.int (2 : Int32)), (.int ff), (.int tt)]) (rest := []) (lenOf pd_19 rfl) rfl rfl (Wt := 0) (Nat.le_of_eq rfl) (hb hby at_154) ?_
              intro T1093 W1094
              by_cases z2 : (if (2 : Int32) < ff then (1 : Int32) else if (2 : Int32) < tt then (if c2 < (48 : Int32) then (0 : Int32) else if (57 : Int32) < c2 then 0 else 1) else 1) = (0 : Int32)
              · refine Go.by (fun t9_ q9_ => XS.ifYes W1094.here W1094.hx rfl (pc0 := 157) (pc' := 177) rfl (hb hby at_157) rfl ((if0 _ _).trans (teq z2).1) (by decide) (by decide) q9_) ?_
                refine Go.by (fun t9_ q9_ => XS.iconst W1094.here W1094.hx rfl (hb hby at_177) (XS.istore W1094.here W1094.hx rfl (hb hby at_178) rfl (l' := #[.val (.int p0), .val (.long p1), .second, .val (.int p2), .val (.int p3), .val (.int (3 : Int32)), .val (.int c0), .val (.int c1), .val (.int c2), .val (.int c3), .val (.ref r), .val (.int ff), .val (.int tt), .val (.int (0 : Int32)), .unset]) rfl q9_)) ?_
                exact J1086 _ _ W1094 (by rw [hx]; exact if_pos (Or.inr (Or.inr (Or.inl z2))))
              · refine Go.by (fun t9_ q9_ => XS.ifNo W1094.here W1094.hx rfl (hb hby at_157) rfl ((if0 _ _).trans (feq z2).1) q9_) ?_
                refine Go.by (fun t9_ q9_ => XS.iload W1094.here W1094.hx rfl (hb hby at_160) rfl (XS.iconst W1094.here W1094.hx rfl (hb hby at_162) (XS.iload W1094.here W1094.hx rfl (hb hby at_163) rfl (XS.iload W1094.here W1094.hx rfl (hb hby at_165) rfl q9_)))) ?_
                show Go _ _ _ _ _ _ _ _ _ (T1093.setTop (mkF m 167 #[.val (.int p0), .val (.long p1), .second, .val (.int p2), .val (.int p3), .val (.int (3 : Int32)), .val (.int c0), .val (.int c1), .val (.int c2), .val (.int c3), .val (.ref r), .val (.int ff), .val (.int tt), .unset, .unset] [(.int tt), (.int ff), (.int (3 : Int32)), (.int c3)]))
                refine W1094.callSp (y := (⟨"com/example/kontraktbuch/kontraktbuch/NotationIsDigitsPinLaw", "fine", "(CIII)Z"⟩ : MethodName)) (wd75 hw) (wd76 hw) (wd2 hw) (wd77 hw) (by decide) (c_fine l Z a0 hw hEL h1078 W1094.old c3 (3 : Int32) ff tt) all0 (by decide) (by decide) (k' := 8) (n' := 40) rfl rfl (by decide) (by decide) (by rw [hml]; rfl) (argsL := [(.int c3), (.int (3 : Int32)), (.int ff), (.int tt)]) (rest := []) (lenOf pd_19 rfl) rfl rfl (Wt := 0) (Nat.le_of_eq rfl) (hb hby at_167) ?_
                intro T1095 W1096
                by_cases z3 : (if (3 : Int32) < ff then (1 : Int32) else if (3 : Int32) < tt then (if c3 < (48 : Int32) then (0 : Int32) else if (57 : Int32) < c3 then 0 else 1) else 1) = (0 : Int32)
                · refine Go.by (fun t9_ q9_ => XS.ifYes W1096.here W1096.hx rfl (pc0 := 170) (pc' := 177) rfl (hb hby at_170) rfl ((if0 _ _).trans (teq z3).1) (by decide) (by decide) q9_) ?_
                  refine Go.by (fun t9_ q9_ => XS.iconst W1096.here W1096.hx rfl (hb hby at_177) (XS.istore W1096.here W1096.hx rfl (hb hby at_178) rfl (l' := #[.val (.int p0), .val (.long p1), .second, .val (.int p2), .val (.int p3), .val (.int (3 : Int32)), .val (.int c0), .val (.int c1), .val (.int c2), .val (.int c3), .val (.ref r), .val (.int ff), .val (.int tt), .val (.int (0 : Int32)), .unset]) rfl q9_)) ?_
                  exact J1086 _ _ W1096 (by rw [hx]; exact if_pos (Or.inr (Or.inr (Or.inr (z3)))))
                · refine Go.by (fun t9_ q9_ => XS.ifNo W1096.here W1096.hx rfl (hb hby at_170) rfl ((if0 _ _).trans (feq z3).1) q9_) ?_
                  refine Go.by (fun t9_ q9_ => XS.iconst W1096.here W1096.hx rfl (hb hby at_173) (XS.goto W1096.here W1096.hx rfl (pc0 := 174) (pc' := 178) rfl (hb hby at_174) (by decide) (by decide) (XS.istore W1096.here W1096.hx rfl (hb hby at_178) rfl (l' := #[.val (.int p0), .val (.long p1), .second, .val (.int p2), .val (.int p3), .val (.int (3 : Int32)), .val (.int c0), .val (.int c1), .val (.int c2), .val (.int c3), .val (.ref r), .val (.int ff), .val (.int tt), .val (.int (1 : Int32)), .unset]) rfl q9_))) ?_
                  exact J1086 _ _ W1096 (by rw [hx]; exact if_neg (fun y => by rcases y with y | y | y | y; exact z0 y; exact z1 y; exact z2 y; exact z3 y))
      · refine Go.by (fun t9_ q9_ => XS.icmpNo W1081.here W1081.hx rfl (hb hby at_99) rfl (flt h1).1 q9_) ?_
        refine Go.by (fun t9_ q9_ => XS.iconst W1081.here W1081.hx rfl (hb hby at_102) (XS.istore W1081.here W1081.hx rfl (hb hby at_103) rfl (l' := #[.val (.int p0), .val (.long p1), .second, .val (.int p2), .val (.int p3), .val (.int (3 : Int32)), .val (.int c0), .val (.int c1), .val (.int c2), .val (.int c3), .val (.ref r), .val (.int ff), .val (.int tt), .val (.int (0 : Int32)), .unset]) rfl (XS.goto W1081.here W1081.hx rfl (pc0 := 105) (pc' := 180) rfl (hb hby at_105) (by decide) (by decide) q9_))) ?_
        exact J1086 _ _ W1081 (by unfold res3; rw [if_neg h1])
    intro T1084 ex W1085 hex
    refine Go.by (fun t9_ q9_ => XS.aload W1085.here W1085.hx rfl (hb hby at_180) rfl rfl (XS.iload W1085.here W1085.hx rfl (hb hby at_182) rfl (XS.iload W1085.here W1085.hx rfl (hb hby at_184) rfl q9_))) ?_
    show Go _ _ _ _ _ _ _ _ _ (T1084.setTop (mkF m 186 #[.val (.int p0), .val (.long p1), .second, .val (.int p2), .val (.int p3), .val (.int (3 : Int32)), .val (.int c0), .val (.int c1), .val (.int c2), .val (.int c3), .val (.ref r), .val (.int ff), .val (.int tt), .val (.int ex), .unset] [(.int tt), (.int ff), (.ref r)]))
    refine W1085.callSp (y := (⟨"com/example/kontraktbuch/kontraktbuch/Notation", "isDigits", "(Ljava/lang/String;II)Z"⟩ : MethodName)) (wd30 hw) (wd31 hw) (wd32 hw) (wd33 hw) (by decide) (c_isd3 l Z a0 hw hEL h1078 W1085.old r c0 c1 c2 ff tt G1 fm PSH SG1 hG SFM rfm SR hff) all0 (by decide) (by decide) (k' := 8) (n' := 40) rfl rfl (by decide) (by decide) (by rw [hml]; rfl) (argsL := [(.ref r), (.int ff), (.int tt)]) (rest := []) (lenOf pd_18 rfl) rfl rfl (Wt := 0) (Nat.le_of_eq rfl) (hb hby at_186) ?_
    intro T1087 W1088
    refine Go.by (fun t9_ q9_ => XS.istore W1088.here W1088.hx rfl (hb hby at_189) rfl (l' := #[.val (.int p0), .val (.long p1), .second, .val (.int p2), .val (.int p3), .val (.int (3 : Int32)), .val (.int c0), .val (.int c1), .val (.int c2), .val (.int c3), .val (.ref r), .val (.int ff), .val (.int tt), .val (.int ex), .val (.int (res3 c0 c1 c2 ff tt))]) rfl (XS.iload W1088.here W1088.hx rfl (hb hby at_191) rfl (XS.iload W1088.here W1088.hx rfl (hb hby at_193) rfl q9_))) ?_
    refine Go.by (fun t9_ q9_ => XS.icmpNo W1088.here W1088.hx rfl (hb hby at_195) rfl (teq hex).2 q9_) ?_
    refine Go.by (fun t9_ q9_ => XS.iconst W1088.here W1088.hx rfl (hb hby at_198) (XS.goto W1088.here W1088.hx rfl (pc0 := 199) (pc' := 203) rfl (hb hby at_199) (by decide) (by decide) q9_)) ?_
    show Go _ _ _ _ _ _ _ _ _ (T1087.setTop (mkF m 203 #[.val (.int p0), .val (.long p1), .second, .val (.int p2), .val (.int p3), .val (.int (3 : Int32)), .val (.int c0), .val (.int c1), .val (.int c2), .val (.int c3), .val (.ref r), .val (.int ff), .val (.int tt), .val (.int ex), .val (.int (res3 c0 c1 c2 ff tt))] [(.int (1 : Int32))]))
    exact W1088.retN (z' := (1 : Int32)) (by decide) (by decide) hret (by simp) (hb hby at_203) rfl rfl
  · refine Go.by (fun t9_ q9_ => XS.istore W1020.here W1020.hx rfl (hb hby at_38) rfl (l' := #[.val (.int p0), .val (.long p1), .second, .val (.int p2), .val (.int p3), .val (.int (4 : Int32)), .val (.int c0), .val (.int c1), .val (.int c2), .val (.int c3), .unset, .unset, .unset, .unset, .unset]) rfl (XS.iload W1020.here W1020.hx rfl (hb hby at_40) rfl (XS.iload W1020.here W1020.hx rfl (hb hby at_42) rfl (XS.iload W1020.here W1020.hx rfl (hb hby at_44) rfl (XS.iload W1020.here W1020.hx rfl (hb hby at_46) rfl (XS.iload W1020.here W1020.hx rfl (hb hby at_48) rfl q9_)))))) ?_
    show Go _ _ _ _ _ _ _ _ _ (T1019.setTop (mkF m 50 #[.val (.int p0), .val (.long p1), .second, .val (.int p2), .val (.int p3), .val (.int (4 : Int32)), .val (.int c0), .val (.int c1), .val (.int c2), .val (.int c3), .unset, .unset, .unset, .unset, .unset] [(.int c3), (.int c2), (.int c1), (.int c0), (.int (4 : Int32))]))
    refine W1020.callS (y := (⟨"com/example/kontraktbuch/kontraktbuch/NotationIsDigitsPinLaw", "make", "(ICCCC)Ljava/lang/String;"⟩ : MethodName)) (wd5 hw) (wd6 hw) (wd2 hw) (wd7 hw) (by decide) (c_make4 l Z a0 hw hEL h0 W1020.old c0 c1 c2 c3 G1 PSH SG1 hG r0 r1 r2 r3) all0 (by decide) (by decide) (k' := 8) (n' := 40) rfl rfl (by decide) (by decide) (by rw [hml]; rfl) (argsL := [(.int (4 : Int32)), (.int c0), (.int c1), (.int c2), (.int c3)]) (rest := []) (lenOf pd_17 rfl) rfl rfl (Wt := 0) (Nat.le_of_eq rfl) (hb hby at_50) ?_
    intro v_ T1097 h1099 W1098 hq_
    obtain ⟨r, rfl, X1, SR⟩ := hq_
    refine Go.by (fun t9_ q9_ => XS.astore W1098.here W1098.hx rfl (hb hby at_53) rfl rfl (l' := #[.val (.int p0), .val (.long p1), .second, .val (.int p2), .val (.int p3), .val (.int (4 : Int32)), .val (.int c0), .val (.int c1), .val (.int c2), .val (.int c3), .val (.ref r), .unset, .unset, .unset, .unset]) rfl (XS.iloadN W1098.here W1098.hx rfl (hb hby at_55) rfl (XS.bipush W1098.here W1098.hx rfl (hb hby at_56) (XS.iand W1098.here W1098.hx rfl (hb hby at_58) rfl q9_)))) ?_
    suffices J1103 : ∀ (T1101 : State) (ff : Int32), Wk p l e room_1 s m #[(.int p0), (.long p1), (.int p2), (.int p3)] below meth c Z a0 [("java/lang/String", 7)] "com/example/kontraktbuch/kontraktbuch/NotationIsDigitsPinLaw" [] T1101 h1099 8 40 → ff = (if (p2 &&& (16 : Int32)) = (0 : Int32) then (p2 &&& (7 : Int32)) else (p2 &&& (2147483647 : Int32))) → Go p e below s Z [("java/lang/String", 7)] room_1.cells room_1.slots (fun v h' => v = some (.int 1)) (T1101.setTop (mkF m 73 #[.val (.int p0), .val (.long p1), .second, .val (.int p2), .val (.int p3), .val (.int (4 : Int32)), .val (.int c0), .val (.int c1), .val (.int c2), .val (.int c3), .val (.ref r), .unset, .unset, .unset, .unset] [(.int ff)])) by
      by_cases hj1100 : (p2 &&& (16 : Int32)) = (0 : Int32)
      · refine Go.by (fun t9_ q9_ => XS.ifYes W1098.here W1098.hx rfl (pc0 := 59) (pc' := 69) rfl (hb hby at_59) rfl ((if0 _ _).trans (teq hj1100).1) (by decide) (by decide) q9_) ?_
        refine Go.by (fun t9_ q9_ => XS.iloadN W1098.here W1098.hx rfl (hb hby at_69) rfl (XS.bipush W1098.here W1098.hx rfl (hb hby at_70) (XS.iand W1098.here W1098.hx rfl (hb hby at_72) rfl q9_))) ?_
        show Go _ _ _ _ _ _ _ _ _ (T1097.setTop (mkF m 73 #[.val (.int p0), .val (.long p1), .second, .val (.int p2), .val (.int p3), .val (.int (4 : Int32)), .val (.int c0), .val (.int c1), .val (.int c2), .val (.int c3), .val (.ref r), .unset, .unset, .unset, .unset] [(.int (p2 &&& (7 : Int32)))]))
        exact J1103 _ _ (W1098.mono (by decide) (by decide)) (by rw [if_pos hj1100])
      · refine Go.by (fun t9_ q9_ => XS.ifNo W1098.here W1098.hx rfl (hb hby at_59) rfl ((if0 _ _).trans (feq hj1100).1) q9_) ?_
        refine Go.by (fun t9_ q9_ => XS.iloadN W1098.here W1098.hx rfl (hb hby at_62) rfl q9_) ?_
        show Go _ _ _ _ _ _ _ _ _ (T1097.setTop (mkF m 63 #[.val (.int p0), .val (.long p1), .second, .val (.int p2), .val (.int p3), .val (.int (4 : Int32)), .val (.int c0), .val (.int c1), .val (.int c2), .val (.int c3), .val (.ref r), .unset, .unset, .unset, .unset] [(.int p2)]))
        refine W1098.ldcI (wd64 hw) (hb hby at_63) ?_
        refine Go.by (fun t9_ q9_ => XS.iand W1098.here W1098.hx rfl (hb hby at_65) rfl (XS.goto W1098.here W1098.hx rfl (pc0 := 66) (pc' := 73) rfl (hb hby at_66) (by decide) (by decide) q9_)) ?_
        show Go _ _ _ _ _ _ _ _ _ (T1097.setTop (mkF m 73 #[.val (.int p0), .val (.long p1), .second, .val (.int p2), .val (.int p3), .val (.int (4 : Int32)), .val (.int c0), .val (.int c1), .val (.int c2), .val (.int c3), .val (.ref r), .unset, .unset, .unset, .unset] [(.int (p2 &&& (2147483647 : Int32)))]))
        exact J1103 _ _ (W1098.mono (by decide) (by decide)) (by rw [if_neg hj1100])
    intro T1101 ff W1102 h_ff
    have hff : ¬ ff < 0 := by rw [h_ff]; exact pos_if _ _
    clear h_ff
    refine Go.by (fun t9_ q9_ => XS.istore W1102.here W1102.hx rfl (hb hby at_73) rfl (l' := #[.val (.int p0), .val (.long p1), .second, .val (.int p2), .val (.int p3), .val (.int (4 : Int32)), .val (.int c0), .val (.int c1), .val (.int c2), .val (.int c3), .val (.ref r), .val (.int ff), .unset, .unset, .unset]) rfl (XS.iload W1102.here W1102.hx rfl (hb hby at_75) rfl (XS.bipush W1102.here W1102.hx rfl (hb hby at_77) (XS.iand W1102.here W1102.hx rfl (hb hby at_79) rfl q9_)))) ?_
    obtain ⟨tt, h_tt⟩ : ∃ z : Int32, z = (if (p3 &&& (16 : Int32)) = (0 : Int32) then (p3 &&& (7 : Int32)) else p3) := ⟨_, rfl⟩
    have mg_tt : ∀ t, Steps p.tables e below (T1101.setTop (mkF m 93 #[.val (.int p0), .val (.long p1), .second, .val (.int p2), .val (.int p3), .val (.int (4 : Int32)), .val (.int c0), .val (.int c1), .val (.int c2), .val (.int c3), .val (.ref r), .val (.int ff), .unset, .unset, .unset] [(.int tt)])) t → Steps p.tables e below (T1101.setTop (mkF m 80 #[.val (.int p0), .val (.long p1), .second, .val (.int p2), .val (.int p3), .val (.int (4 : Int32)), .val (.int c0), .val (.int c1), .val (.int c2), .val (.int c3), .val (.ref r), .val (.int ff), .unset, .unset, .unset] [(.int (p3 &&& (16 : Int32)))])) t := by
      intro t q
      by_cases hm1104 : (p3 &&& (16 : Int32)) = (0 : Int32)
      · refine XS.ifYes W1102.here W1102.hx rfl (pc0 := 80) (pc' := 88) rfl (hb hby at_80) rfl ((if0 _ _).trans (teq hm1104).1) (by decide) (by decide) ?_
        show Steps p.tables e below (T1101.setTop (mkF m 88 #[.val (.int p0), .val (.long p1), .second, .val (.int p2), .val (.int p3), .val (.int (4 : Int32)), .val (.int c0), .val (.int c1), .val (.int c2), .val (.int c3), .val (.ref r), .val (.int ff), .unset, .unset, .unset] [])) _
        refine XS.iload W1102.here W1102.hx rfl (hb hby at_88) rfl ?_
        show Steps p.tables e below (T1101.setTop (mkF m 90 #[.val (.int p0), .val (.long p1), .second, .val (.int p2), .val (.int p3), .val (.int (4 : Int32)), .val (.int c0), .val (.int c1), .val (.int c2), .val (.int c3), .val (.ref r), .val (.int ff), .unset, .unset, .unset] [(.int p3)])) _
        refine XS.bipush W1102.here W1102.hx rfl (hb hby at_90) ?_
        show Steps p.tables e below (T1101.setTop (mkF m 92 #[.val (.int p0), .val (.long p1), .second, .val (.int p2), .val (.int p3), .val (.int (4 : Int32)), .val (.int c0), .val (.int c1), .val (.int c2), .val (.int c3), .val (.ref r), .val (.int ff), .unset, .unset, .unset] [(.int (7 : Int32)), (.int p3)])) _
        refine XS.iand W1102.here W1102.hx rfl (hb hby at_92) rfl ?_
        show Steps p.tables e below (T1101.setTop (mkF m 93 #[.val (.int p0), .val (.long p1), .second, .val (.int p2), .val (.int p3), .val (.int (4 : Int32)), .val (.int c0), .val (.int c1), .val (.int c2), .val (.int c3), .val (.ref r), .val (.int ff), .unset, .unset, .unset] [(.int (p3 &&& (7 : Int32)))])) _
        rw [if_pos hm1104] at h_tt
        subst h_tt
        exact q
      · refine XS.ifNo W1102.here W1102.hx rfl (hb hby at_80) rfl ((if0 _ _).trans (feq hm1104).1) ?_
        show Steps p.tables e below (T1101.setTop (mkF m 83 #[.val (.int p0), .val (.long p1), .second, .val (.int p2), .val (.int p3), .val (.int (4 : Int32)), .val (.int c0), .val (.int c1), .val (.int c2), .val (.int c3), .val (.ref r), .val (.int ff), .unset, .unset, .unset] [])) _
        refine XS.iload W1102.here W1102.hx rfl (hb hby at_83) rfl ?_
        show Steps p.tables e below (T1101.setTop (mkF m 85 #[.val (.int p0), .val (.long p1), .second, .val (.int p2), .val (.int p3), .val (.int (4 : Int32)), .val (.int c0), .val (.int c1), .val (.int c2), .val (.int c3), .val (.ref r), .val (.int ff), .unset, .unset, .unset] [(.int p3)])) _
        refine XS.goto W1102.here W1102.hx rfl (pc0 := 85) (pc' := 93) rfl (hb hby at_85) (by decide) (by decide) ?_
        show Steps p.tables e below (T1101.setTop (mkF m 93 #[.val (.int p0), .val (.long p1), .second, .val (.int p2), .val (.int p3), .val (.int (4 : Int32)), .val (.int c0), .val (.int c1), .val (.int c2), .val (.int c3), .val (.ref r), .val (.int ff), .unset, .unset, .unset] [(.int p3)])) _
        rw [if_neg hm1104] at h_tt
        subst h_tt
        exact q
    refine Go.by mg_tt ?_
    clear h_tt mg_tt
    refine Go.by (fun t9_ q9_ => XS.istore W1102.here W1102.hx rfl (hb hby at_93) rfl (l' := #[.val (.int p0), .val (.long p1), .second, .val (.int p2), .val (.int p3), .val (.int (4 : Int32)), .val (.int c0), .val (.int c1), .val (.int c2), .val (.int c3), .val (.ref r), .val (.int ff), .val (.int tt), .unset, .unset]) rfl (XS.iload W1102.here W1102.hx rfl (hb hby at_95) rfl (XS.iload W1102.here W1102.hx rfl (hb hby at_97) rfl q9_))) ?_
    suffices J1107 : ∀ (T1105 : State) (ex : Int32), Wk p l e room_1 s m #[(.int p0), (.long p1), (.int p2), (.int p3)] below meth c Z a0 [("java/lang/String", 7)] "com/example/kontraktbuch/kontraktbuch/NotationIsDigitsPinLaw" [] T1105 h1099 8 40 → (res4 c0 c1 c2 c3 ff tt) = ex → Go p e below s Z [("java/lang/String", 7)] room_1.cells room_1.slots (fun v h' => v = some (.int 1)) (T1105.setTop (mkF m 180 #[.val (.int p0), .val (.long p1), .second, .val (.int p2), .val (.int p3), .val (.int (4 : Int32)), .val (.int c0), .val (.int c1), .val (.int c2), .val (.int c3), .val (.ref r), .val (.int ff), .val (.int tt), .val (.int ex), .unset] [])) by
      by_cases h1 : ff < tt
      · refine Go.by (fun t9_ q9_ => XS.icmpYes W1102.here W1102.hx rfl (pc0 := 99) (pc' := 108) rfl (hb hby at_99) rfl (tlt h1).1 (by decide) (by decide) q9_) ?_
        refine Go.by (fun t9_ q9_ => XS.iload W1102.here W1102.hx rfl (hb hby at_108) rfl (XS.iload W1102.here W1102.hx rfl (hb hby at_110) rfl q9_)) ?_
        by_cases h2 : (4 : Int32) < tt
        · refine Go.by (fun t9_ q9_ => XS.icmpNo W1102.here W1102.hx rfl (hb hby at_112) rfl (tlt h2).2.2.2 q9_) ?_
          refine Go.by (fun t9_ q9_ => XS.iconst W1102.here W1102.hx rfl (hb hby at_115) (XS.istore W1102.here W1102.hx rfl (hb hby at_116) rfl (l' := #[.val (.int p0), .val (.long p1), .second, .val (.int p2), .val (.int p3), .val (.int (4 : Int32)), .val (.int c0), .val (.int c1), .val (.int c2), .val (.int c3), .val (.ref r), .val (.int ff), .val (.int tt), .val (.int (0 : Int32)), .unset]) rfl (XS.goto W1102.here W1102.hx rfl (pc0 := 118) (pc' := 180) rfl (hb hby at_118) (by decide) (by decide) q9_))) ?_
          exact J1107 _ _ W1102 (by unfold res4; rw [if_pos h1, if_pos h2])
        · refine Go.by (fun t9_ q9_ => XS.icmpYes W1102.here W1102.hx rfl (pc0 := 112) (pc' := 121) rfl (hb hby at_112) rfl (flt h2).2.2.2 (by decide) (by decide) q9_) ?_
          have hx := exp_4 c0 c1 c2 c3 ff tt hff h1 h2
          refine Go.by (fun t9_ q9_ => XS.iload W1102.here W1102.hx rfl (hb hby at_121) rfl (XS.iconst W1102.here W1102.hx rfl (hb hby at_123) (XS.iload W1102.here W1102.hx rfl (hb hby at_124) rfl (XS.iload W1102.here W1102.hx rfl (hb hby at_126) rfl q9_)))) ?_
          show Go _ _ _ _ _ _ _ _ _ (T1101.setTop (mkF m 128 #[.val (.int p0), .val (.long p1), .second, .val (.int p2), .val (.int p3), .val (.int (4 : Int32)), .val (.int c0), .val (.int c1), .val (.int c2), .val (.int c3), .val (.ref r), .val (.int ff), .val (.int tt), .unset, .unset] [(.int tt), (.int ff), (.int (0 : Int32)), (.int c0)]))
          refine W1102.callSp (y := (⟨"com/example/kontraktbuch/kontraktbuch/NotationIsDigitsPinLaw", "fine", "(CIII)Z"⟩ : MethodName)) (wd75 hw) (wd76 hw) (wd2 hw) (wd77 hw) (by decide) (c_fine l Z a0 hw hEL h1099 W1102.old c0 (0 : Int32) ff tt) all0 (by decide) (by decide) (k' := 8) (n' := 40) rfl rfl (by decide) (by decide) (by rw [hml]; rfl) (argsL := [(.int c0), (.int (0 : Int32)), (.int ff), (.int tt)]) (rest := []) (lenOf pd_19 rfl) rfl rfl (Wt := 0) (Nat.le_of_eq rfl) (hb hby at_128) ?_
          intro T1110 W1111
          by_cases z0 : (if (0 : Int32) < ff then (1 : Int32) else if (0 : Int32) < tt then (if c0 < (48 : Int32) then (0 : Int32) else if (57 : Int32) < c0 then 0 else 1) else 1) = (0 : Int32)
          · refine Go.by (fun t9_ q9_ => XS.ifYes W1111.here W1111.hx rfl (pc0 := 131) (pc' := 177) rfl (hb hby at_131) rfl ((if0 _ _).trans (teq z0).1) (by decide) (by decide) q9_) ?_
            refine Go.by (fun t9_ q9_ => XS.iconst W1111.here W1111.hx rfl (hb hby at_177) (XS.istore W1111.here W1111.hx rfl (hb hby at_178) rfl (l' := #[.val (.int p0), .val (.long p1), .second, .val (.int p2), .val (.int p3), .val (.int (4 : Int32)), .val (.int c0), .val (.int c1), .val (.int c2), .val (.int c3), .val (.ref r), .val (.int ff), .val (.int tt), .val (.int (0 : Int32)), .unset]) rfl q9_)) ?_
            exact J1107 _ _ W1111 (by rw [hx]; exact if_pos (Or.inl z0))
          · refine Go.by (fun t9_ q9_ => XS.ifNo W1111.here W1111.hx rfl (hb hby at_131) rfl ((if0 _ _).trans (feq z0).1) q9_) ?_
            refine Go.by (fun t9_ q9_ => XS.iload W1111.here W1111.hx rfl (hb hby at_134) rfl (XS.iconst W1111.here W1111.hx rfl (hb hby at_136) (XS.iload W1111.here W1111.hx rfl (hb hby at_137) rfl (XS.iload W1111.here W1111.hx rfl (hb hby at_139) rfl q9_)))) ?_
            show Go _ _ _ _ _ _ _ _ _ (T1110.setTop (mkF m 141 #[.val (.int p0), .val (.long p1), .second, .val (.int p2), .val (.int p3), .val (.int (4 : Int32)), .val (.int c0), .val (.int c1), .val (.int c2), .val (.int c3), .val (.ref r), .val (.int ff), .val (.int tt), .unset, .unset] [(.int tt), (.int ff), (.int (1 : Int32)), (.int c1)]))
            refine W1111.callSp (y := (⟨"com/example/kontraktbuch/kontraktbuch/NotationIsDigitsPinLaw", "fine", "(CIII)Z"⟩ : MethodName)) (wd75 hw) (wd76 hw) (wd2 hw) (wd77 hw) (by decide) (c_fine l Z a0 hw hEL h1099 W1111.old c1 (1 : Int32) ff tt) all0 (by decide) (by decide) (k' := 8) (n' := 40) rfl rfl (by decide) (by decide) (by rw [hml]; rfl) (argsL := [(.int c1), (.int (1 : Int32)), (.int ff), (.int tt)]) (rest := []) (lenOf pd_19 rfl) rfl rfl (Wt := 0) (Nat.le_of_eq rfl) (hb hby at_141) ?_
            intro T1112 W1113
            by_cases z1 : (if (1 : Int32) < ff then (1 : Int32) else if (1 : Int32) < tt then (if c1 < (48 : Int32) then (0 : Int32) else if (57 : Int32) < c1 then 0 else 1) else 1) = (0 : Int32)
            · refine Go.by (fun t9_ q9_ => XS.ifYes W1113.here W1113.hx rfl (pc0 := 144) (pc' := 177) rfl (hb hby at_144) rfl ((if0 _ _).trans (teq z1).1) (by decide) (by decide) q9_) ?_
              refine Go.by (fun t9_ q9_ => XS.iconst W1113.here W1113.hx rfl (hb hby at_177) (XS.istore W1113.here W1113.hx rfl (hb hby at_178) rfl (l' := #[.val (.int p0), .val (.long p1), .second, .val (.int p2), .val (.int p3), .val (.int (4 : Int32)), .val (.int c0), .val (.int c1), .val (.int c2), .val (.int c3), .val (.ref r), .val (.int ff), .val (.int tt), .val (.int (0 : Int32)), .unset]) rfl q9_)) ?_
              exact J1107 _ _ W1113 (by rw [hx]; exact if_pos (Or.inr (Or.inl z1)))
            · refine Go.by (fun t9_ q9_ => XS.ifNo W1113.here W1113.hx rfl (hb hby at_144) rfl ((if0 _ _).trans (feq z1).1) q9_) ?_
              refine Go.by (fun t9_ q9_ => XS.iload W1113.here W1113.hx rfl (hb hby at_147) rfl (XS.iconst W1113.here W1113.hx rfl (hb hby at_149) (XS.iload W1113.here W1113.hx rfl (hb hby at_150) rfl (XS.iload W1113.here W1113.hx rfl (hb hby at_152) rfl q9_)))) ?_
              show Go _ _ _ _ _ _ _ _ _ (T1112.setTop (mkF m 154 #[.val (.int p0), .val (.long p1), .second, .val (.int p2), .val (.int p3), .val (.int (4 : Int32)), .val (.int c0), .val (.int c1), .val (.int c2), .val (.int c3), .val (.ref r), .val (.int ff), .val (.int tt), .unset, .unset] [(.int tt), (.int ff), (.int (2 : Int32)), (.int c2)]))
              refine W1113.callSp (y := (⟨"com/example/kontraktbuch/kontraktbuch/NotationIsDigitsPinLaw", "fine", "(CIII)Z"⟩ : MethodName)) (wd75 hw) (wd76 hw) (wd2 hw) (wd77 hw) (by decide) (c_fine l Z a0 hw hEL h1099 W1113.old c2 (2 : Int32) ff tt) all0 (by decide) (by decide) (k' := 8) (n' := 40) rfl rfl (by decide) (by decide) (by rw [hml]; rfl) (argsL := [(.int c2), (.int (2 : Int32)), (.int ff), (.int tt)]) (rest := []) (lenOf pd_19 rfl) rfl rfl (Wt := 0) (Nat.le_of_eq rfl) (hb hby at_154) ?_
              intro T1114 W1115
              by_cases z2 : (if (2 : Int32) < ff then (1 : Int32) else if (2 : Int32) < tt then (if c2 < (48 : Int32) then (0 : Int32) else if (57 : Int32) < c2 then 0 else 1) else 1) = (0 : Int32)
              · refine Go.by (fun t9_ q9_ => XS.ifYes W1115.here W1115.hx rfl (pc0 := 157) (pc' := 177) rfl (hb hby at_157) rfl ((if0 _ _).trans (teq z2).1) (by decide) (by decide) q9_) ?_
                refine Go.by (fun t9_ q9_ => XS.iconst W1115.here W1115.hx rfl (hb hby at_177) (XS.istore W1115.here W1115.hx rfl (hb hby at_178) rfl (l' := #[.val (.int p0), .val (.long p1), .second, .val (.int p2), .val (.int p3), .val (.int (4 : Int32)), .val (.int c0), .val (.int c1), .val (.int c2), .val (.int c3), .val (.ref r), .val (.int ff), .val (.int tt), .val (.int (0 : Int32)), .unset]) rfl q9_)) ?_
                exact J1107 _ _ W1115 (by rw [hx]; exact if_pos (Or.inr (Or.inr (Or.inl z2))))
              · refine Go.by (fun t9_ q9_ => XS.ifNo W1115.here W1115.hx rfl (hb hby at_157) rfl ((if0 _ _).trans (feq z2).1) q9_) ?_
                refine Go.by (fun t9_ q9_ => XS.iload W1115.here W1115.hx rfl (hb hby at_160) rfl (XS.iconst W1115.here W1115.hx rfl (hb hby at_162) (XS.iload W1115.here W1115.hx rfl (hb hby at_163) rfl (XS.iload W1115.here W1115.hx rfl (hb hby at_165) rfl q9_)))) ?_
                show Go _ _ _ _ _ _ _ _ _ (T1114.setTop (mkF m 167 #[.val (.int p0), .val (.long p1), .second, .val (.int p2), .val (.int p3), .val (.int (4 : Int32)), .val (.int c0), .val (.int c1), .val (.int c2), .val (.int c3), .val (.ref r), .val (.int ff), .val (.int tt), .unset, .unset] [(.int tt), (.int ff), (.int (3 : Int32)), (.int c3)]))
                refine W1115.callSp (y := (⟨"com/example/kontraktbuch/kontraktbuch/NotationIsDigitsPinLaw", "fine", "(CIII)Z"⟩ : MethodName)) (wd75 hw) (wd76 hw) (wd2 hw) (wd77 hw) (by decide) (c_fine l Z a0 hw hEL h1099 W1115.old c3 (3 : Int32) ff tt) all0 (by decide) (by decide) (k' := 8) (n' := 40) rfl rfl (by decide) (by decide) (by rw [hml]; rfl) (argsL := [(.int c3), (.int (3 : Int32)), (.int ff), (.int tt)]) (rest := []) (lenOf pd_19 rfl) rfl rfl (Wt := 0) (Nat.le_of_eq rfl) (hb hby at_167) ?_
                intro T1116 W1117
                by_cases z3 : (if (3 : Int32) < ff then (1 : Int32) else if (3 : Int32) < tt then (if c3 < (48 : Int32) then (0 : Int32) else if (57 : Int32) < c3 then 0 else 1) else 1) = (0 : Int32)
                · refine Go.by (fun t9_ q9_ => XS.ifYes W1117.here W1117.hx rfl (pc0 := 170) (pc' := 177) rfl (hb hby at_170) rfl ((if0 _ _).trans (teq z3).1) (by decide) (by decide) q9_) ?_
                  refine Go.by (fun t9_ q9_ => XS.iconst W1117.here W1117.hx rfl (hb hby at_177) (XS.istore W1117.here W1117.hx rfl (hb hby at_178) rfl (l' := #[.val (.int p0), .val (.long p1), .second, .val (.int p2), .val (.int p3), .val (.int (4 : Int32)), .val (.int c0), .val (.int c1), .val (.int c2), .val (.int c3), .val (.ref r), .val (.int ff), .val (.int tt), .val (.int (0 : Int32)), .unset]) rfl q9_)) ?_
                  exact J1107 _ _ W1117 (by rw [hx]; exact if_pos (Or.inr (Or.inr (Or.inr (z3)))))
                · refine Go.by (fun t9_ q9_ => XS.ifNo W1117.here W1117.hx rfl (hb hby at_170) rfl ((if0 _ _).trans (feq z3).1) q9_) ?_
                  refine Go.by (fun t9_ q9_ => XS.iconst W1117.here W1117.hx rfl (hb hby at_173) (XS.goto W1117.here W1117.hx rfl (pc0 := 174) (pc' := 178) rfl (hb hby at_174) (by decide) (by decide) (XS.istore W1117.here W1117.hx rfl (hb hby at_178) rfl (l' := #[.val (.int p0), .val (.long p1), .second, .val (.int p2), .val (.int p3), .val (.int (4 : Int32)), .val (.int c0), .val (.int c1), .val (.int c2), .val (.int c3), .val (.ref r), .val (.int ff), .val (.int tt), .val (.int (1 : Int32)), .unset]) rfl q9_))) ?_
                  exact J1107 _ _ W1117 (by rw [hx]; exact if_neg (fun y => by rcases y with y | y | y | y; exact z0 y; exact z1 y; exact z2 y; exact z3 y))
      · refine Go.by (fun t9_ q9_ => XS.icmpNo W1102.here W1102.hx rfl (hb hby at_99) rfl (flt h1).1 q9_) ?_
        refine Go.by (fun t9_ q9_ => XS.iconst W1102.here W1102.hx rfl (hb hby at_102) (XS.istore W1102.here W1102.hx rfl (hb hby at_103) rfl (l' := #[.val (.int p0), .val (.long p1), .second, .val (.int p2), .val (.int p3), .val (.int (4 : Int32)), .val (.int c0), .val (.int c1), .val (.int c2), .val (.int c3), .val (.ref r), .val (.int ff), .val (.int tt), .val (.int (0 : Int32)), .unset]) rfl (XS.goto W1102.here W1102.hx rfl (pc0 := 105) (pc' := 180) rfl (hb hby at_105) (by decide) (by decide) q9_))) ?_
        exact J1107 _ _ W1102 (by unfold res4; rw [if_neg h1])
    intro T1105 ex W1106 hex
    refine Go.by (fun t9_ q9_ => XS.aload W1106.here W1106.hx rfl (hb hby at_180) rfl rfl (XS.iload W1106.here W1106.hx rfl (hb hby at_182) rfl (XS.iload W1106.here W1106.hx rfl (hb hby at_184) rfl q9_))) ?_
    show Go _ _ _ _ _ _ _ _ _ (T1105.setTop (mkF m 186 #[.val (.int p0), .val (.long p1), .second, .val (.int p2), .val (.int p3), .val (.int (4 : Int32)), .val (.int c0), .val (.int c1), .val (.int c2), .val (.int c3), .val (.ref r), .val (.int ff), .val (.int tt), .val (.int ex), .unset] [(.int tt), (.int ff), (.ref r)]))
    refine W1106.callSp (y := (⟨"com/example/kontraktbuch/kontraktbuch/Notation", "isDigits", "(Ljava/lang/String;II)Z"⟩ : MethodName)) (wd30 hw) (wd31 hw) (wd32 hw) (wd33 hw) (by decide) (c_isd4 l Z a0 hw hEL h1099 W1106.old r c0 c1 c2 c3 ff tt G1 fm PSH SG1 hG SFM rfm SR hff) all0 (by decide) (by decide) (k' := 8) (n' := 40) rfl rfl (by decide) (by decide) (by rw [hml]; rfl) (argsL := [(.ref r), (.int ff), (.int tt)]) (rest := []) (lenOf pd_18 rfl) rfl rfl (Wt := 0) (Nat.le_of_eq rfl) (hb hby at_186) ?_
    intro T1108 W1109
    refine Go.by (fun t9_ q9_ => XS.istore W1109.here W1109.hx rfl (hb hby at_189) rfl (l' := #[.val (.int p0), .val (.long p1), .second, .val (.int p2), .val (.int p3), .val (.int (4 : Int32)), .val (.int c0), .val (.int c1), .val (.int c2), .val (.int c3), .val (.ref r), .val (.int ff), .val (.int tt), .val (.int ex), .val (.int (res4 c0 c1 c2 c3 ff tt))]) rfl (XS.iload W1109.here W1109.hx rfl (hb hby at_191) rfl (XS.iload W1109.here W1109.hx rfl (hb hby at_193) rfl q9_))) ?_
    refine Go.by (fun t9_ q9_ => XS.icmpNo W1109.here W1109.hx rfl (hb hby at_195) rfl (teq hex).2 q9_) ?_
    refine Go.by (fun t9_ q9_ => XS.iconst W1109.here W1109.hx rfl (hb hby at_198) (XS.goto W1109.here W1109.hx rfl (pc0 := 199) (pc' := 203) rfl (hb hby at_199) (by decide) (by decide) q9_)) ?_
    show Go _ _ _ _ _ _ _ _ _ (T1108.setTop (mkF m 203 #[.val (.int p0), .val (.long p1), .second, .val (.int p2), .val (.int p3), .val (.int (4 : Int32)), .val (.int c0), .val (.int c1), .val (.int c2), .val (.int c3), .val (.ref r), .val (.int ff), .val (.int tt), .val (.int ex), .val (.int (res4 c0 c1 c2 c3 ff tt))] [(.int (1 : Int32))]))
    exact W1109.retN (z' := (1 : Int32)) (by decide) (by decide) hret (by simp) (hb hby at_203) rfl rfl
set_option maxRecDepth 65536 in
set_option maxHeartbeats 40000000 in
theorem comes_1 {Post : Tables → Env → Array Value → State → Outcome → State → Prop} (hpost : ∀ tb e args s v u, (limb_1_1.after args s (.returned v) u = true ∧ limb_1_2.after args s (.returned v) u = true ∧ True) → FramedW s (.returned v) u (Jvm.fieldLocs frame_1_writes args s ++ Jvm.arrayLocs frame_1_arrays args s ++ Jvm.staticLocs frame_1_statics s) 24 1152 → Post tb e args s (.returned v) u) :
    ArmFor flags0 classFile x code maxLocals ret World_1 tables_1 room_1 Calls_1 rest_1 Pre_1 Post := by
  intro l hfl _ _ p e ha hc hk s m args below hf hA hF happ hP
  obtain ⟨hcalls, hrest, hpre⟩ := hP
  obtain ⟨-, -, -, hnamed, -, -, -, hat⟩ := (Spec.applies_iff hf).mp happ
  obtain ⟨hg, hn⟩ := and_e (Cond.before_iff.mp (show (Jvm.Cond.and given_1 narrow_1).before args s = true from hpre))
  obtain ⟨h1, hg0⟩ := and_e hg
  obtain ⟨ga0, hg1⟩ := and_e hg0
  obtain ⟨ga1, hg2⟩ := and_e hg1
  obtain ⟨ga2, hg3⟩ := and_e hg2
  have ga3 := hg3
  obtain ⟨w0, w1, w2, w3, rfl⟩ : ∃ w0 w1 w2 w3 : Value, args = #[w0, w1, w2, w3] := by
    have hs : args.size = 4 := by simpa [Cond.value, given_1] using h1
    obtain ⟨L⟩ := args
    match L, hs with
    | [w0, w1, w2, w3], _ => exact ⟨w0, w1, w2, w3, rfl⟩
  have hw := fun d (hd : d ∈ tables_1) => atoms_spec (ws := Jvm.Cond.code x code maxLocals ret :: tables_1) hat d (List.mem_cons_of_mem _ hd)
  obtain ⟨hsets, hown0⟩ := atoms_of _ (rest_1_c_eq ▸ (show rest_1_c.before _ s = true from hrest))
  have hfit : Fit s := fun {y c} hc i hi => by
    obtain ⟨ha, rfl⟩ := Array.getElem?_eq_some_iff.mp hc
    have q := List.all_eq_true.mp ((Array.all_eq_true_iff_forall_mem.mp hF) _ (Array.getElem_mem ha)) i (List.mem_range.mpr hi)
    simpa [Array.getElem?_eq_getElem hi] using q
  obtain ⟨p0, ea0⟩ := is_v ga0
  obtain rfl : w0 = (.int p0) := Option.some.inj ea0
  obtain ⟨p1, ea1⟩ := isL_v ga1
  obtain rfl : w1 = (.long p1) := Option.some.inj ea1
  obtain ⟨p2, ea2⟩ := is_v ga2
  obtain rfl : w2 = (.int p2) := Option.some.inj ea2
  obtain ⟨p3, ea3⟩ := is_v ga3
  obtain rfl : w3 = (.int p3) := Option.some.inj ea3
  have hcw := hsets _ (List.mem_of_getElem? (i := 2) rfl)
  have nG := not_v (Cond.before_iff.mp hcw)
  obtain ⟨G1, eG⟩ := is_v (Cond.before_iff.mp (hsets _ (List.mem_of_getElem? (i := 1) rfl)))
  have SG1 : Sta s s.heap "java/lang/String" "COMPACT_STRINGS" "Z" (.int G1) := Sta.start eG (Or.inl (hsets _ (List.mem_of_getElem? (i := 0) rfl)))
  have hG : ¬ (G1 = (0 : Int32)) := gotF (Cond.eq_ints eG (Term.int_eval (0))) nG
  obtain ⟨fm, eF, rfm⟩ := isR_v (Cond.before_iff.mp (hsets _ (List.mem_of_getElem? (i := 8) rfl)))
  have SFM : Sta s s.heap "jdk/internal/util/Preconditions" "SIOOBE_FORMATTER" "Ljava/util/function/BiFunction;" fm := Sta.start eF (Or.inl (hsets _ (List.mem_of_getElem? (i := 7) rfl)))
  have eSAD := Cond.eq_int (hsets _ (List.mem_of_getElem? (i := 12) rfl)) rfl
  have SAD : Sta s s.heap "java/lang/StringUTF16" "$assertionsDisabled" "Z" (.int 1) := Sta.start eSAD (Or.inl (hsets _ (List.mem_of_getElem? (i := 11) rfl)))
  have eSHI := Cond.eq_int (hsets _ (List.mem_of_getElem? (i := 15) rfl)) rfl
  have SHI : Sta s s.heap "java/lang/StringUTF16" "HI_BYTE_SHIFT" "I" (.int 0) := Sta.start eSHI (Or.inl (hsets _ (List.mem_of_getElem? (i := 14) rfl)))
  have eSLO := Cond.eq_int (hsets _ (List.mem_of_getElem? (i := 18) rfl)) rfl
  have SLO : Sta s s.heap "java/lang/StringUTF16" "LO_BYTE_SHIFT" "I" (.int 8) := Sta.start eSLO (Or.inl (hsets _ (List.mem_of_getElem? (i := 17) rfl)))
  have PSH : PS3 s := ⟨SAD, SHI, SLO⟩
  have hEL : EW s #[(.int p0), (.long p1), (.int p2), (.int p3)] [("java/lang/String", 7)] := (EW.cons (wd22 hw) (by decide +kernel) EW.nil)
  have hCH : CHv s [("java/lang/String", 7)] s.vm s.heap := CHv.start hEL (fun p hp => hcalls.1 p hp) hcw (wd23 hw) (wd9 hw)
  obtain ⟨n, o, h1, h2, h3, _, L, rfl, ⟨rfl, N⟩, -, hq⟩ := c_law l s _ hw hEL s.heap (Ext.refl' _) p0 p1 p2 p3 G1 fm PSH SG1 hG SFM rfm p e ha hc hk s m _ below hf ((Spec.applies_iff_loose hf).mp happ).1 ⟨rfl, State.Warmed39.refl s, rfl, hCH, all0⟩ trivial
  exact ⟨n, _, h1, h2, h3, hpost _ _ _ _ _ _ ⟨Cond.after_iff.mpr rfl, Cond.after_iff.mpr (eq_i res_at (Term.int_eval (1)) rfl), trivial⟩ ⟨hq.1, hq.2.1, hq.2.2.1, (hq.2.2.2.sift fun y hy => Or.inr (N y hy)).mono (by decide) (by decide)⟩⟩
theorem main_1_1 : Claimed_1_1 := comes_1 fun _ _ _ _ _ _ h hF => ⟨h.1, hF⟩
theorem main_1_2 : Claimed_1_2 := comes_1 fun _ _ _ _ _ _ h hF => ⟨h.2.1, hF⟩
end Jvm.Pilot.@@N@@
namespace Jvm.Pilot.@@N@@
open Jvm Jvm.ClassFile Sem Op Lib Jvm.Free Jvm.Stand Jvm.Pilot.@@N@@.Jvm.D
/-! MADE BY PROGRAM (witnessworld.py) out of the Statement's table words and the real class files: 20 classes; the members and pool entries that the words name. The judged class is class 1, her method 5. -/
namespace start1
open Jvm.ClassFile
def u (s : String) : CpInfo := .utf8 (stringToUtf16 s)
/-- a pool by its gaps: so many unusable entries, then the entry; so many at the end -/
def gap : Nat → List CpInfo → List CpInfo
  | 0, r => r
  | n + 1, r => .unusable :: gap n r
def poolList (es : List (Nat × CpInfo)) (last : Nat) : List CpInfo := es.foldr (fun e r => gap e.1 (e.2 :: r)) (gap last [])
def pool (es : List (Nat × CpInfo)) (last : Nat) : Array CpInfo := ⟨poolList es last⟩
def fileOf (pool : Array CpInfo) (this : Nat) (attrs : Array Attribute := #[]) (ms : Array MethodInfo := #[]) (fl : Nat := 33) (sup : Nat := 0) (ifs : Array Nat := #[]) (fds : Array FieldInfo := #[]) : ClassFile where
  minorVersion := 0
  majorVersion := 65
  constantPool := pool
  accessFlags := fl
  thisClass := this
  superClass := sup
  interfaces := ifs
  fields := fds
  methods := ms
  attributes := attrs
def plain (name : String) (sup : Option ClassId) : Class where
  name := name
  kind := .ordinary
  loader := none
  accessFlags := 33
  super := sup
  interfaces := #[]
  cf := none
  fields := #[]
  methods := #[]
  instanceTypes := #[]
  staticTypes := #[]
  resolved := #[]
  callSites := []
  init := .initialized
  statics := none
  mirror := none

def pool0 : Array CpInfo := pool [(5, u "<init>"), (0, u "()V"), (1, .class_ 10), (1, u "java/lang/Object")] 113

def k0c0 : Code := { maxStack := 0, maxLocals := 1, code := object_method_1_code, exceptionTable := #[], attributes := #[] }
def k0m0 : Method := { name := "<init>", desc := "()V", sig := { parameters := [], returnType := none }, accessFlags := 1, code := some k0c0 }
/-- java/lang/Object -/
def k0 : Class := { plain "java/lang/Object" none with
  accessFlags := 33
  interfaces := #[]
  cf := some (fileOf pool0 8 #[] #[{ accessFlags := 1, nameIndex := 5, descriptorIndex := 6, attributes := #[] }] 33 0 #[] #[])
  fields := #[]
  methods := #[k0m0]
  instanceTypes := #[]
  staticTypes := #[]
  resolved := Array.replicate 124 none
  statics := none }

def pool1 : Array CpInfo := pool [(2, .class_ 4), (1, u "java/lang/Object"), (0, u "<init>"), (0, u "()V"), (0, .long 65535), (1, .methodref 10 11), (0, .class_ 12), (0, .nameAndType 13 14), (0, u "com/example/kontraktbuch/kontraktbuch/NotationIsDigitsPinLaw"), (0, u "asciiDigit"), (0, u "(C)Z"), (0, .class_ 16), (0, u "java/lang/String"), (0, .methodref 15 18), (0, .nameAndType 5 19), (0, u "([C)V"), (0, .methodref 10 21), (0, .nameAndType 22 23), (0, u "draw"), (0, u "(JII)C"), (0, .methodref 10 25), (0, .nameAndType 26 27), (0, u "make"), (0, u "(ICCCC)Ljava/lang/String;"), (0, .integer 2147483647), (0, .methodref 10 30), (0, .nameAndType 31 32), (0, u "fine"), (0, u "(CIII)Z"), (0, .methodref 34 35), (0, .class_ 36), (0, .nameAndType 37 38), (0, u "com/example/kontraktbuch/kontraktbuch/Notation"), (0, u "isDigits"), (0, u "(Ljava/lang/String;II)Z"), (3, u "law"), (0, u "(IJII)Z")] 2

def k1m0 : Method := { name := "<init>", desc := "()V", sig := { parameters := [], returnType := none }, accessFlags := 2, code := none }
def k1c1 : Code := { maxStack := 4, maxLocals := 5, code := method_2_code, exceptionTable := #[], attributes := #[] }
def k1m1 : Method := { name := "draw", desc := "(JII)C", sig := { parameters := [.long, .int, .int], returnType := some .char }, accessFlags := 10, code := some k1c1 }
def k1c2 : Code := { maxStack := 2, maxLocals := 1, code := method_3_code, exceptionTable := #[], attributes := #[] }
def k1m2 : Method := { name := "asciiDigit", desc := "(C)Z", sig := { parameters := [.char], returnType := some .boolean }, accessFlags := 10, code := some k1c2 }
def k1c3 : Code := { maxStack := 2, maxLocals := 4, code := method_4_code, exceptionTable := #[], attributes := #[] }
def k1m3 : Method := { name := "fine", desc := "(CIII)Z", sig := { parameters := [.char, .int, .int, .int], returnType := some .boolean }, accessFlags := 10, code := some k1c3 }
def k1c4 : Code := { maxStack := 6, maxLocals := 5, code := method_5_code, exceptionTable := #[], attributes := #[] }
def k1m4 : Method := { name := "make", desc := "(ICCCC)Ljava/lang/String;", sig := { parameters := [.int, .char, .char, .char, .char], returnType := some (.object "java/lang/String") }, accessFlags := 10, code := some k1c4 }
def k1c5 : Code := { maxStack := 5, maxLocals := 15, code := code, exceptionTable := #[], attributes := #[] }
def k1m5 : Method := { name := "law", desc := "(IJII)Z", sig := { parameters := [.int, .long, .int, .int], returnType := some .boolean }, accessFlags := 9, code := some k1c5 }
/-- com/example/kontraktbuch/kontraktbuch/NotationIsDigitsPinLaw -/
def k1 : Class := { plain "com/example/kontraktbuch/kontraktbuch/NotationIsDigitsPinLaw" (some 0) with
  accessFlags := 49
  interfaces := #[]
  cf := some (fileOf pool1 10 #[] #[{ accessFlags := 2, nameIndex := 5, descriptorIndex := 6, attributes := #[] }, { accessFlags := 10, nameIndex := 22, descriptorIndex := 23, attributes := #[] }, { accessFlags := 10, nameIndex := 13, descriptorIndex := 14, attributes := #[] }, { accessFlags := 10, nameIndex := 31, descriptorIndex := 32, attributes := #[] }, { accessFlags := 10, nameIndex := 26, descriptorIndex := 27, attributes := #[] }, { accessFlags := 9, nameIndex := 42, descriptorIndex := 43, attributes := #[] }] 49 2 #[] #[])
  fields := #[]
  methods := #[k1m0, k1m1, k1m2, k1m3, k1m4, k1m5]
  instanceTypes := #[]
  staticTypes := #[]
  resolved := Array.replicate 46 none
  statics := none }

def pool2 : Array CpInfo := pool [(1, .class_ 2), (0, u "java/io/Serializable"), (0, .class_ 4), (0, u "java/lang/Object")] 2

/-- java/io/Serializable -/
def k2 : Class := { plain "java/io/Serializable" (some 0) with
  accessFlags := 1537
  interfaces := #[]
  cf := some (fileOf pool2 1 #[] #[] 1537 3 #[] #[])
  fields := #[]
  methods := #[]
  instanceTypes := #[]
  staticTypes := #[]
  resolved := Array.replicate 7 none
  statics := none }

def pool3 : Array CpInfo := pool [(1, .class_ 2), (0, u "java/lang/Comparable"), (0, .class_ 4), (0, u "java/lang/Object")] 7

/-- java/lang/Comparable -/
def k3 : Class := { plain "java/lang/Comparable" (some 0) with
  accessFlags := 1537
  interfaces := #[]
  cf := some (fileOf pool3 1 #[] #[] 1537 3 #[] #[])
  fields := #[]
  methods := #[]
  instanceTypes := #[]
  staticTypes := #[]
  resolved := Array.replicate 12 none
  statics := none }

def pool4 : Array CpInfo := pool [(2, .class_ 4), (1, u "java/lang/CharSequence"), (42, .class_ 48), (0, u "java/lang/CharSequence$1CodePointIterator"), (10, .class_ 60), (0, u "java/lang/CharSequence$1CharIterator"), (5, .class_ 67), (0, u "java/lang/Object")] 63

/-- java/lang/CharSequence -/
def k4 : Class := { plain "java/lang/CharSequence" (some 0) with
  accessFlags := 1537
  interfaces := #[]
  cf := some (fileOf pool4 2 #[.nestMembers #[47, 59]] #[] 1537 66 #[] #[])
  fields := #[]
  methods := #[]
  instanceTypes := #[]
  staticTypes := #[]
  resolved := Array.replicate 131 none
  statics := none }

def pool5 : Array CpInfo := pool [(1, .class_ 2), (0, u "java/lang/constant/Constable"), (0, .class_ 4), (0, u "java/lang/Object")] 6

/-- java/lang/constant/Constable -/
def k5 : Class := { plain "java/lang/constant/Constable" (some 0) with
  accessFlags := 1537
  interfaces := #[]
  cf := some (fileOf pool5 1 #[] #[] 1537 3 #[] #[])
  fields := #[]
  methods := #[]
  instanceTypes := #[]
  staticTypes := #[]
  resolved := Array.replicate 11 none
  statics := none }

def pool6 : Array CpInfo := pool [(1, .class_ 2), (0, u "java/lang/constant/ConstantDesc"), (0, .class_ 4), (0, u "java/lang/Object")] 32

/-- java/lang/constant/ConstantDesc -/
def k6 : Class := { plain "java/lang/constant/ConstantDesc" (some 0) with
  accessFlags := 1537
  interfaces := #[]
  cf := some (fileOf pool6 1 #[] #[] 1537 3 #[] #[])
  fields := #[]
  methods := #[]
  instanceTypes := #[]
  staticTypes := #[]
  resolved := Array.replicate 37 none
  statics := none }

def pool7 : Array CpInfo := pool [(1, .methodref 2 3), (0, .class_ 4), (0, .nameAndType 5 6), (0, u "java/lang/Object"), (0, u "<init>"), (0, u "()V"), (0, .string 8), (0, u ""), (0, .fieldref 10 11), (0, .class_ 12), (0, .nameAndType 13 14), (0, u "java/lang/String"), (0, u "value"), (0, u "[B"), (0, .fieldref 10 16), (0, .nameAndType 17 18), (0, u "coder"), (0, u "B"), (2, u "hash"), (0, u "I"), (2, u "hashIsZero"), (0, u "Z"), (0, .methodref 10 28), (0, .nameAndType 5 29), (0, u "([CIILjava/lang/Void;)V"), (8, .fieldref 10 39), (0, .nameAndType 40 26), (0, u "COMPACT_STRINGS"), (1, .class_ 44), (1, u "java/lang/StringUTF16"), (0, u "compress"), (1, .methodref 42 48), (0, .nameAndType 49 50), (0, u "coderFromArrayLen"), (0, u "([BI)B"), (56, .class_ 109), (1, u "java/lang/StringLatin1"), (32, u "()Z"), (34, .methodref 42 178), (0, .nameAndType 45 179), (0, u "([CII)[B"), (154, u "()I"), (0, .methodref 10 336), (0, .nameAndType 17 337), (0, u "()B"), (25, u "([BI)C"), (27, u "(II)V"), (35, u "(I)C"), (64, .methodref 10 493), (0, .nameAndType 494 142), (0, u "isLatin1"), (0, .methodref 107 496), (0, .nameAndType 497 363), (0, u "charAt"), (0, .methodref 42 496), (2, u "checkIndex"), (5, u "length"), (67, .class_ 576), (0, u "java/lang/CharSequence"), (22, u "CASE_INSENSITIVE_ORDER"), (0, u "Ljava/util/Comparator;"), (409, u "([C)V"), (42, .fieldref 1054 1055), (0, .class_ 1056), (0, .nameAndType 1057 1058), (0, u "jdk/internal/util/Preconditions"), (0, u "SIOOBE_FORMATTER"), (0, u "Ljava/util/function/BiFunction;"), (0, .methodref 1054 1060), (0, .nameAndType 501 1061), (0, u "(IILjava/util/function/BiFunction;)I"), (39, u "serialPersistentFields"), (0, u "[Ljava/io/ObjectStreamField;"), (0, .class_ 1104), (0, u "java/lang/String$CaseInsensitiveComparator"), (1, .class_ 1107), (0, u "java/io/Serializable"), (0, .class_ 1109), (0, u "java/lang/Comparable"), (0, .class_ 1111), (0, u "java/lang/constant/Constable"), (0, .class_ 1113), (0, u "java/lang/constant/ConstantDesc"), (2, u "serialVersionUID"), (0, u "J"), (3, u "REPL"), (0, u "C"), (2, u "LATIN1"), (1, u "UTF16")] 323

def k7m0 : Method := { name := "<init>", desc := "()V", sig := { parameters := [], returnType := none }, accessFlags := 1, code := none }
def k7c1 : Code := { maxStack := 5, maxLocals := 2, code := jdk_42_method_3_code, exceptionTable := #[], attributes := #[] }
def k7m1 : Method := { name := "<init>", desc := "([C)V", sig := { parameters := [(.array .char)], returnType := none }, accessFlags := 1, code := some k7c1 }
def k7c2 : Code := { maxStack := 2, maxLocals := 1, code := jdk_42_method_54_code, exceptionTable := #[], attributes := #[] }
def k7m2 : Method := { name := "length", desc := "()I", sig := { parameters := [], returnType := some .int }, accessFlags := 1, code := some k7c2 }
def k7c3 : Code := { maxStack := 2, maxLocals := 2, code := jdk_42_method_56_code, exceptionTable := #[], attributes := #[] }
def k7m3 : Method := { name := "charAt", desc := "(I)C", sig := { parameters := [.int], returnType := some .char }, accessFlags := 1, code := some k7c3 }
def k7c4 : Code := { maxStack := 4, maxLocals := 6, code := jdk_42_method_149_code, exceptionTable := #[], attributes := #[] }
def k7m4 : Method := { name := "<init>", desc := "([CIILjava/lang/Void;)V", sig := { parameters := [(.array .char), .int, .int, (.object "java/lang/Void")], returnType := none }, accessFlags := 2, code := some k7c4 }
def k7c5 : Code := { maxStack := 1, maxLocals := 1, code := jdk_42_method_152_code, exceptionTable := #[], attributes := #[] }
def k7m5 : Method := { name := "coder", desc := "()B", sig := { parameters := [], returnType := some .byte }, accessFlags := 0, code := some k7c5 }
def k7c6 : Code := { maxStack := 1, maxLocals := 1, code := jdk_42_method_154_code, exceptionTable := #[], attributes := #[] }
def k7m6 : Method := { name := "isLatin1", desc := "()Z", sig := { parameters := [], returnType := some .boolean }, accessFlags := 0, code := some k7c6 }
def k7c7 : Code := { maxStack := 3, maxLocals := 2, code := jdk_42_method_155_code, exceptionTable := #[], attributes := #[] }
def k7m7 : Method := { name := "checkIndex", desc := "(II)V", sig := { parameters := [.int, .int], returnType := none }, accessFlags := 8, code := some k7c7 }
/-- java/lang/String -/
def k7 : Class := { plain "java/lang/String" (some 0) with
  accessFlags := 49
  interfaces := #[2, 3, 4, 5, 6]
  cf := some (fileOf pool7 10 #[.nestMembers #[1103]] #[{ accessFlags := 1, nameIndex := 5, descriptorIndex := 6, attributes := #[] }, { accessFlags := 1, nameIndex := 5, descriptorIndex := 1010, attributes := #[] }, { accessFlags := 1, nameIndex := 507, descriptorIndex := 334, attributes := #[] }, { accessFlags := 1, nameIndex := 497, descriptorIndex := 427, attributes := #[] }, { accessFlags := 2, nameIndex := 5, descriptorIndex := 29, attributes := #[] }, { accessFlags := 0, nameIndex := 17, descriptorIndex := 337, attributes := #[] }, { accessFlags := 0, nameIndex := 494, descriptorIndex := 142, attributes := #[] }, { accessFlags := 8, nameIndex := 501, descriptorIndex := 391, attributes := #[] }] 49 2 #[1106, 1108, 575, 1110, 1112] #[{ accessFlags := 18, nameIndex := 13, descriptorIndex := 14, attributes := #[] }, { accessFlags := 18, nameIndex := 17, descriptorIndex := 18, attributes := #[] }, { accessFlags := 2, nameIndex := 21, descriptorIndex := 22, attributes := #[] }, { accessFlags := 2, nameIndex := 25, descriptorIndex := 26, attributes := #[] }, { accessFlags := 26, nameIndex := 1116, descriptorIndex := 1117, attributes := #[] }, { accessFlags := 24, nameIndex := 40, descriptorIndex := 26, attributes := #[] }, { accessFlags := 26, nameIndex := 1101, descriptorIndex := 1102, attributes := #[] }, { accessFlags := 26, nameIndex := 1121, descriptorIndex := 1122, attributes := #[] }, { accessFlags := 25, nameIndex := 599, descriptorIndex := 600, attributes := #[] }, { accessFlags := 24, nameIndex := 1125, descriptorIndex := 18, attributes := #[] }, { accessFlags := 24, nameIndex := 1127, descriptorIndex := 18, attributes := #[] }])
  fields := #[{ name := "value", type := (.array .byte), accessFlags := 18, slot := 0, constantValue := 0 }, { name := "coder", type := .byte, accessFlags := 18, slot := 1, constantValue := 0 }, { name := "hash", type := .int, accessFlags := 2, slot := 2, constantValue := 0 }, { name := "hashIsZero", type := .boolean, accessFlags := 2, slot := 3, constantValue := 0 }, { name := "serialVersionUID", type := .long, accessFlags := 26, slot := 0, constantValue := 0 }, { name := "COMPACT_STRINGS", type := .boolean, accessFlags := 24, slot := 1, constantValue := 0 }, { name := "serialPersistentFields", type := (.array (.object "java/io/ObjectStreamField")), accessFlags := 26, slot := 2, constantValue := 0 }, { name := "REPL", type := .char, accessFlags := 26, slot := 3, constantValue := 0 }, { name := "CASE_INSENSITIVE_ORDER", type := (.object "java/util/Comparator"), accessFlags := 25, slot := 4, constantValue := 0 }, { name := "LATIN1", type := .byte, accessFlags := 24, slot := 5, constantValue := 0 }, { name := "UTF16", type := .byte, accessFlags := 24, slot := 6, constantValue := 0 }]
  methods := #[k7m0, k7m1, k7m2, k7m3, k7m4, k7m5, k7m6, k7m7]
  instanceTypes := #[(.array .byte), .byte, .int, .boolean]
  staticTypes := #[.long, .boolean, (.array (.object "java/io/ObjectStreamField")), .char, (.object "java/util/Comparator"), .byte, .byte]
  resolved := Array.replicate 1451 none
  statics := some 0 }

def pool8 : Array CpInfo := pool [(2, .class_ 4), (1, u "java/lang/Object"), (0, u "<init>"), (0, u "()V"), (0, .methodref 8 9), (0, .class_ 10), (0, .nameAndType 11 12), (0, u "java/lang/String"), (0, u "length"), (0, u "()I"), (1, .class_ 16), (1, u "com/example/kontraktbuch/kontraktbuch/Notation"), (0, u "isDigits"), (0, u "(Ljava/lang/String;II)Z"), (0, .methodref 8 20), (0, .nameAndType 21 22), (0, u "charAt"), (0, u "(I)C"), (37, u "MONTHS"), (0, u "Ljava/util/List;"), (12, u "WEEKDAYS"), (2, u "ORDINALS")] 93

def k8m0 : Method := { name := "<init>", desc := "()V", sig := { parameters := [], returnType := none }, accessFlags := 2, code := none }
def k8c1 : Code := { maxStack := 2, maxLocals := 5, code := prog_29_method_10_code, exceptionTable := #[], attributes := #[] }
def k8m1 : Method := { name := "isDigits", desc := "(Ljava/lang/String;II)Z", sig := { parameters := [(.object "java/lang/String"), .int, .int], returnType := some .boolean }, accessFlags := 8, code := some k8c1 }
/-- com/example/kontraktbuch/kontraktbuch/Notation -/
def k8 : Class := { plain "com/example/kontraktbuch/kontraktbuch/Notation" (some 0) with
  accessFlags := 49
  interfaces := #[]
  cf := some (fileOf pool8 14 #[] #[{ accessFlags := 2, nameIndex := 5, descriptorIndex := 6, attributes := #[] }, { accessFlags := 8, nameIndex := 17, descriptorIndex := 18, attributes := #[] }] 49 2 #[] #[{ accessFlags := 26, nameIndex := 60, descriptorIndex := 61, attributes := #[] }, { accessFlags := 26, nameIndex := 74, descriptorIndex := 61, attributes := #[] }, { accessFlags := 26, nameIndex := 77, descriptorIndex := 61, attributes := #[] }])
  fields := #[{ name := "MONTHS", type := (.object "java/util/List"), accessFlags := 26, slot := 0, constantValue := 0 }, { name := "WEEKDAYS", type := (.object "java/util/List"), accessFlags := 26, slot := 1, constantValue := 0 }, { name := "ORDINALS", type := (.object "java/util/List"), accessFlags := 26, slot := 2, constantValue := 0 }]
  methods := #[k8m0, k8m1]
  instanceTypes := #[]
  staticTypes := #[(.object "java/util/List"), (.object "java/util/List"), (.object "java/util/List")]
  resolved := Array.replicate 171 none
  statics := none }

def pool9 : Array CpInfo := pool [(3, .class_ 4), (0, u "java/lang/String"), (1, .class_ 8), (1, u "java/lang/Object"), (0, u "<init>"), (0, u "()V"), (0, .methodref 12 13), (0, .class_ 14), (0, .nameAndType 15 16), (0, u "java/lang/StringUTF16"), (0, u "newBytesLength"), (0, u "(I)I"), (3, .integer 1073741823), (23, .fieldref 12 45), (0, .nameAndType 46 47), (0, u "$assertionsDisabled"), (0, u "Z"), (0, .methodref 12 49), (0, .nameAndType 50 51), (0, u "length"), (0, u "([B)I"), (7, .fieldref 12 60), (0, .nameAndType 61 62), (0, u "HI_BYTE_SHIFT"), (0, u "I"), (0, .fieldref 12 64), (0, .nameAndType 65 62), (0, u "LO_BYTE_SHIFT"), (1, .methodref 12 68), (0, .nameAndType 69 70), (0, u "checkIndex"), (0, u "(I[B)V"), (0, .methodref 12 72), (0, .nameAndType 73 74), (0, u "getChar"), (0, u "([BI)C"), (32, .methodref 12 108), (0, .nameAndType 109 110), (0, u "newBytesFor"), (0, u "(I)[B"), (0, .methodref 12 112), (0, .nameAndType 113 114), (0, u "putChar"), (0, u "([BII)V"), (0, .methodref 12 116), (0, .nameAndType 117 118), (0, u "compress"), (0, u "([CI[BII)I"), (0, .methodref 12 120), (0, .nameAndType 121 122), (0, u "toBytes"), (0, u "([CII)[B"), (138, u "coderFromArrayLen"), (0, u "([BI)B"), (106, .class_ 371), (1, u "java/lang/StringUTF16$LinesSpliterator"), (20, u "charAt"), (21, .methodref 3 415), (0, .nameAndType 69 416), (0, u "(II)V"), (13, u "MAX_LENGTH"), (196, .class_ 628), (0, u "java/lang/StringUTF16$CodePointsSpliterator"), (0, .class_ 630), (0, u "java/lang/StringUTF16$CharsSpliterator")] 4

def k9m0 : Method := { name := "<init>", desc := "()V", sig := { parameters := [], returnType := none }, accessFlags := 0, code := none }
def k9c1 : Code := { maxStack := 1, maxLocals := 1, code := jdk_52_method_2_code, exceptionTable := #[], attributes := #[] }
def k9m1 : Method := { name := "newBytesFor", desc := "(I)[B", sig := { parameters := [.int], returnType := some (.array .byte) }, accessFlags := 9, code := some k9c1 }
def k9c2 : Code := { maxStack := 4, maxLocals := 1, code := jdk_52_method_3_code, exceptionTable := #[], attributes := #[] }
def k9m2 : Method := { name := "newBytesLength", desc := "(I)I", sig := { parameters := [.int], returnType := some .int }, accessFlags := 9, code := some k9c2 }
def k9c3 : Code := { maxStack := 4, maxLocals := 3, code := jdk_52_method_4_code, exceptionTable := #[], attributes := #[] }
def k9m3 : Method := { name := "putChar", desc := "([BII)V", sig := { parameters := [(.array .byte), .int, .int], returnType := none }, accessFlags := 8, code := some k9c3 }
def k9c4 : Code := { maxStack := 3, maxLocals := 2, code := jdk_52_method_5_code, exceptionTable := #[], attributes := #[] }
def k9m4 : Method := { name := "getChar", desc := "([BI)C", sig := { parameters := [(.array .byte), .int], returnType := some .char }, accessFlags := 8, code := some k9c4 }
def k9c5 : Code := { maxStack := 2, maxLocals := 1, code := jdk_52_method_6_code, exceptionTable := #[], attributes := #[] }
def k9m5 : Method := { name := "length", desc := "([B)I", sig := { parameters := [(.array .byte)], returnType := some .int }, accessFlags := 9, code := some k9c5 }
def k9c6 : Code := { maxStack := 4, maxLocals := 5, code := jdk_52_method_14_code, exceptionTable := #[], attributes := #[] }
def k9m6 : Method := { name := "toBytes", desc := "([CII)[B", sig := { parameters := [(.array .char), .int, .int], returnType := some (.array .byte) }, accessFlags := 9, code := some k9c6 }
def k9c7 : Code := { maxStack := 2, maxLocals := 2, code := jdk_52_method_15_code, exceptionTable := #[], attributes := #[] }
def k9m7 : Method := { name := "coderFromArrayLen", desc := "([BI)B", sig := { parameters := [(.array .byte), .int], returnType := some .byte }, accessFlags := 8, code := some k9c7 }
def k9c8 : Code := { maxStack := 5, maxLocals := 6, code := jdk_52_method_16_code, exceptionTable := #[], attributes := #[] }
def k9m8 : Method := { name := "compress", desc := "([CII)[B", sig := { parameters := [(.array .char), .int, .int], returnType := some (.array .byte) }, accessFlags := 9, code := some k9c8 }
def k9c9 : Code := { maxStack := 3, maxLocals := 7, code := jdk_52_method_21_code, exceptionTable := #[], attributes := #[] }
def k9m9 : Method := { name := "compress", desc := "([CI[BII)I", sig := { parameters := [(.array .char), .int, (.array .byte), .int, .int], returnType := some .int }, accessFlags := 9, code := some k9c9 }
def k9c10 : Code := { maxStack := 2, maxLocals := 2, code := jdk_52_method_83_code, exceptionTable := #[], attributes := #[] }
def k9m10 : Method := { name := "charAt", desc := "([BI)C", sig := { parameters := [(.array .byte), .int], returnType := some .char }, accessFlags := 9, code := some k9c10 }
def k9c11 : Code := { maxStack := 2, maxLocals := 2, code := jdk_52_method_91_code, exceptionTable := #[], attributes := #[] }
def k9m11 : Method := { name := "checkIndex", desc := "(I[B)V", sig := { parameters := [.int, (.array .byte)], returnType := none }, accessFlags := 9, code := some k9c11 }
/-- java/lang/StringUTF16 -/
def k9 : Class := { plain "java/lang/StringUTF16" (some 0) with
  accessFlags := 48
  interfaces := #[]
  cf := some (fileOf pool9 12 #[.nestMembers #[627, 629, 369]] #[{ accessFlags := 0, nameIndex := 9, descriptorIndex := 10, attributes := #[] }, { accessFlags := 9, nameIndex := 109, descriptorIndex := 110, attributes := #[] }, { accessFlags := 9, nameIndex := 15, descriptorIndex := 16, attributes := #[] }, { accessFlags := 8, nameIndex := 113, descriptorIndex := 114, attributes := #[] }, { accessFlags := 8, nameIndex := 73, descriptorIndex := 74, attributes := #[] }, { accessFlags := 9, nameIndex := 50, descriptorIndex := 51, attributes := #[] }, { accessFlags := 9, nameIndex := 121, descriptorIndex := 122, attributes := #[] }, { accessFlags := 8, nameIndex := 261, descriptorIndex := 262, attributes := #[] }, { accessFlags := 9, nameIndex := 117, descriptorIndex := 122, attributes := #[] }, { accessFlags := 9, nameIndex := 117, descriptorIndex := 118, attributes := #[] }, { accessFlags := 9, nameIndex := 392, descriptorIndex := 74, attributes := #[] }, { accessFlags := 9, nameIndex := 69, descriptorIndex := 70, attributes := #[] }] 48 6 #[] #[{ accessFlags := 26, nameIndex := 61, descriptorIndex := 62, attributes := #[] }, { accessFlags := 26, nameIndex := 65, descriptorIndex := 62, attributes := #[] }, { accessFlags := 24, nameIndex := 430, descriptorIndex := 62, attributes := #[] }, { accessFlags := 4120, nameIndex := 46, descriptorIndex := 47, attributes := #[] }])
  fields := #[{ name := "HI_BYTE_SHIFT", type := .int, accessFlags := 26, slot := 0, constantValue := 0 }, { name := "LO_BYTE_SHIFT", type := .int, accessFlags := 26, slot := 1, constantValue := 0 }, { name := "MAX_LENGTH", type := .int, accessFlags := 24, slot := 2, constantValue := 0 }, { name := "$assertionsDisabled", type := .boolean, accessFlags := 4120, slot := 3, constantValue := 0 }]
  methods := #[k9m0, k9m1, k9m2, k9m3, k9m4, k9m5, k9m6, k9m7, k9m8, k9m9, k9m10, k9m11]
  instanceTypes := #[]
  staticTypes := #[.int, .int, .int, .boolean]
  resolved := Array.replicate 635 none
  statics := some 1 }

def pool10 : Array CpInfo := pool [(2, .class_ 4), (1, u "java/lang/Object"), (0, u "<init>"), (0, u "()V"), (17, .class_ 26), (1, u "jdk/internal/util/Preconditions"), (6, u "checkIndex"), (21, .class_ 56), (0, u "jdk/internal/util/Preconditions$4"), (57, .class_ 115), (0, u "jdk/internal/util/Preconditions$1"), (7, u "SIOOBE_FORMATTER"), (0, u "Ljava/util/function/BiFunction;"), (0, .class_ 126), (0, u "jdk/internal/util/Preconditions$2"), (3, u "AIOOBE_FORMATTER"), (0, .class_ 132), (0, u "jdk/internal/util/Preconditions$3"), (3, u "IOOBE_FORMATTER"), (41, u "(IILjava/util/function/BiFunction;)I")] 15

def k10m0 : Method := { name := "<init>", desc := "()V", sig := { parameters := [], returnType := none }, accessFlags := 1, code := none }
def k10c1 : Code := { maxStack := 3, maxLocals := 3, code := jdk_41_method_11_code, exceptionTable := #[], attributes := #[] }
def k10m1 : Method := { name := "checkIndex", desc := "(IILjava/util/function/BiFunction;)I", sig := { parameters := [.int, .int, (.object "java/util/function/BiFunction")], returnType := some .int }, accessFlags := 9, code := some k10c1 }
/-- jdk/internal/util/Preconditions -/
def k10 : Class := { plain "jdk/internal/util/Preconditions" (some 0) with
  accessFlags := 33
  interfaces := #[]
  cf := some (fileOf pool10 24 #[.nestMembers #[55, 131, 125, 114]] #[{ accessFlags := 1, nameIndex := 5, descriptorIndex := 6, attributes := #[] }, { accessFlags := 9, nameIndex := 33, descriptorIndex := 178, attributes := #[] }] 33 2 #[] #[{ accessFlags := 25, nameIndex := 123, descriptorIndex := 124, attributes := #[] }, { accessFlags := 25, nameIndex := 130, descriptorIndex := 124, attributes := #[] }, { accessFlags := 25, nameIndex := 136, descriptorIndex := 124, attributes := #[] }])
  fields := #[{ name := "SIOOBE_FORMATTER", type := (.object "java/util/function/BiFunction"), accessFlags := 25, slot := 0, constantValue := 0 }, { name := "AIOOBE_FORMATTER", type := (.object "java/util/function/BiFunction"), accessFlags := 25, slot := 1, constantValue := 0 }, { name := "IOOBE_FORMATTER", type := (.object "java/util/function/BiFunction"), accessFlags := 25, slot := 2, constantValue := 0 }]
  methods := #[k10m0, k10m1]
  instanceTypes := #[]
  staticTypes := #[(.object "java/util/function/BiFunction"), (.object "java/util/function/BiFunction"), (.object "java/util/function/BiFunction")]
  resolved := Array.replicate 194 none
  statics := some 2 }

def pool11 : Array CpInfo := pool [(1, .class_ 2), (0, u "java/lang/String"), (1, .class_ 6), (1, u "java/lang/Object"), (0, u "<init>"), (0, u "()V"), (0, .methodref 1 10), (0, .nameAndType 11 12), (0, u "checkIndex"), (0, u "(II)V"), (1, .class_ 16), (1, u "java/lang/StringLatin1"), (36, u "([BI)C"), (67, u "$assertionsDisabled"), (0, u "Z"), (98, .class_ 223), (1, u "java/lang/StringLatin1$LinesSpliterator"), (28, u "charAt"), (137, .class_ 391), (0, u "java/lang/StringLatin1$CharsSpliterator")] 3

def k11m0 : Method := { name := "<init>", desc := "()V", sig := { parameters := [], returnType := none }, accessFlags := 0, code := none }
def k11c1 : Code := { maxStack := 2, maxLocals := 2, code := jdk_43_method_2_code, exceptionTable := #[], attributes := #[] }
def k11m1 : Method := { name := "charAt", desc := "([BI)C", sig := { parameters := [(.array .byte), .int], returnType := some .char }, accessFlags := 9, code := some k11c1 }
/-- java/lang/StringLatin1 -/
def k11 : Class := { plain "java/lang/StringLatin1" (some 0) with
  accessFlags := 48
  interfaces := #[]
  cf := some (fileOf pool11 14 #[.nestMembers #[390, 221]] #[{ accessFlags := 0, nameIndex := 7, descriptorIndex := 8, attributes := #[] }, { accessFlags := 9, nameIndex := 252, descriptorIndex := 53, attributes := #[] }] 48 4 #[] #[{ accessFlags := 4120, nameIndex := 121, descriptorIndex := 122, attributes := #[] }])
  fields := #[{ name := "$assertionsDisabled", type := .boolean, accessFlags := 4120, slot := 0, constantValue := 0 }]
  methods := #[k11m0, k11m1]
  instanceTypes := #[]
  staticTypes := #[.boolean]
  resolved := Array.replicate 395 none
  statics := none }

def pool12 : Array CpInfo := pool [(9, u "<init>"), (6, .class_ 18), (1, u "java/lang/Object"), (0, u "()V"), (1, .class_ 23), (1, u "jdk/internal/util/ArraysSupport"), (0, u "LOG2_ARRAY_LONG_INDEX_SCALE"), (0, u "I"), (2, u "U"), (0, u "Ljdk/internal/misc/Unsafe;"), (8, u "BIG_ENDIAN"), (0, u "Z"), (8, u "LOG2_BYTE_BIT_SIZE"), (4, u "LOG2_ARRAY_INT_INDEX_SCALE"), (54, u "JLA"), (0, u "Ljdk/internal/access/JavaLangAccess;"), (11, u "LOG2_ARRAY_BOOLEAN_INDEX_SCALE"), (9, u "LOG2_ARRAY_BYTE_INDEX_SCALE"), (5, u "LOG2_ARRAY_CHAR_INDEX_SCALE"), (5, u "LOG2_ARRAY_SHORT_INDEX_SCALE"), (18, u "LOG2_ARRAY_FLOAT_INDEX_SCALE"), (24, u "LOG2_ARRAY_DOUBLE_INDEX_SCALE"), (89, u "T_BOOLEAN"), (2, u "T_CHAR"), (1, u "T_FLOAT"), (1, u "T_DOUBLE"), (1, u "T_BYTE"), (1, u "T_SHORT"), (1, u "T_INT"), (1, u "T_LONG"), (1, u "SOFT_MAX_ARRAY_LENGTH")] 83

def k12m0 : Method := { name := "<init>", desc := "()V", sig := { parameters := [], returnType := none }, accessFlags := 2, code := none }
/-- jdk/internal/util/ArraysSupport -/
def k12 : Class := { plain "jdk/internal/util/ArraysSupport" (some 0) with
  accessFlags := 33
  interfaces := #[]
  cf := some (fileOf pool12 21 #[] #[{ accessFlags := 2, nameIndex := 9, descriptorIndex := 19, attributes := #[] }] 33 16 #[] #[{ accessFlags := 24, nameIndex := 28, descriptorIndex := 29, attributes := #[] }, { accessFlags := 26, nameIndex := 38, descriptorIndex := 39, attributes := #[] }, { accessFlags := 25, nameIndex := 121, descriptorIndex := 25, attributes := #[] }, { accessFlags := 25, nameIndex := 131, descriptorIndex := 25, attributes := #[] }, { accessFlags := 25, nameIndex := 137, descriptorIndex := 25, attributes := #[] }, { accessFlags := 25, nameIndex := 143, descriptorIndex := 25, attributes := #[] }, { accessFlags := 25, nameIndex := 53, descriptorIndex := 25, attributes := #[] }, { accessFlags := 25, nameIndex := 24, descriptorIndex := 25, attributes := #[] }, { accessFlags := 25, nameIndex := 162, descriptorIndex := 25, attributes := #[] }, { accessFlags := 25, nameIndex := 187, descriptorIndex := 25, attributes := #[] }, { accessFlags := 26, nameIndex := 48, descriptorIndex := 25, attributes := #[] }, { accessFlags := 25, nameIndex := 277, descriptorIndex := 25, attributes := #[] }, { accessFlags := 25, nameIndex := 280, descriptorIndex := 25, attributes := #[] }, { accessFlags := 25, nameIndex := 282, descriptorIndex := 25, attributes := #[] }, { accessFlags := 25, nameIndex := 284, descriptorIndex := 25, attributes := #[] }, { accessFlags := 25, nameIndex := 286, descriptorIndex := 25, attributes := #[] }, { accessFlags := 25, nameIndex := 288, descriptorIndex := 25, attributes := #[] }, { accessFlags := 25, nameIndex := 290, descriptorIndex := 25, attributes := #[] }, { accessFlags := 25, nameIndex := 292, descriptorIndex := 25, attributes := #[] }, { accessFlags := 26, nameIndex := 108, descriptorIndex := 109, attributes := #[] }, { accessFlags := 25, nameIndex := 294, descriptorIndex := 25, attributes := #[] }])
  fields := #[{ name := "U", type := (.object "jdk/internal/misc/Unsafe"), accessFlags := 24, slot := 0, constantValue := 0 }, { name := "BIG_ENDIAN", type := .boolean, accessFlags := 26, slot := 1, constantValue := 0 }, { name := "LOG2_ARRAY_BOOLEAN_INDEX_SCALE", type := .int, accessFlags := 25, slot := 2, constantValue := 0 }, { name := "LOG2_ARRAY_BYTE_INDEX_SCALE", type := .int, accessFlags := 25, slot := 3, constantValue := 0 }, { name := "LOG2_ARRAY_CHAR_INDEX_SCALE", type := .int, accessFlags := 25, slot := 4, constantValue := 0 }, { name := "LOG2_ARRAY_SHORT_INDEX_SCALE", type := .int, accessFlags := 25, slot := 5, constantValue := 0 }, { name := "LOG2_ARRAY_INT_INDEX_SCALE", type := .int, accessFlags := 25, slot := 6, constantValue := 0 }, { name := "LOG2_ARRAY_LONG_INDEX_SCALE", type := .int, accessFlags := 25, slot := 7, constantValue := 0 }, { name := "LOG2_ARRAY_FLOAT_INDEX_SCALE", type := .int, accessFlags := 25, slot := 8, constantValue := 0 }, { name := "LOG2_ARRAY_DOUBLE_INDEX_SCALE", type := .int, accessFlags := 25, slot := 9, constantValue := 0 }, { name := "LOG2_BYTE_BIT_SIZE", type := .int, accessFlags := 26, slot := 10, constantValue := 0 }, { name := "T_BOOLEAN", type := .int, accessFlags := 25, slot := 11, constantValue := 0 }, { name := "T_CHAR", type := .int, accessFlags := 25, slot := 12, constantValue := 0 }, { name := "T_FLOAT", type := .int, accessFlags := 25, slot := 13, constantValue := 0 }, { name := "T_DOUBLE", type := .int, accessFlags := 25, slot := 14, constantValue := 0 }, { name := "T_BYTE", type := .int, accessFlags := 25, slot := 15, constantValue := 0 }, { name := "T_SHORT", type := .int, accessFlags := 25, slot := 16, constantValue := 0 }, { name := "T_INT", type := .int, accessFlags := 25, slot := 17, constantValue := 0 }, { name := "T_LONG", type := .int, accessFlags := 25, slot := 18, constantValue := 0 }, { name := "JLA", type := (.object "jdk/internal/access/JavaLangAccess"), accessFlags := 26, slot := 19, constantValue := 0 }, { name := "SOFT_MAX_ARRAY_LENGTH", type := .int, accessFlags := 25, slot := 20, constantValue := 0 }]
  methods := #[k12m0]
  instanceTypes := #[]
  staticTypes := #[(.object "jdk/internal/misc/Unsafe"), .boolean, .int, .int, .int, .int, .int, .int, .int, .int, .int, .int, .int, .int, .int, .int, .int, .int, .int, (.object "jdk/internal/access/JavaLangAccess"), .int]
  resolved := Array.replicate 378 none
  statics := none }

def pool13 : Array CpInfo := pool [(1, u "java/lang/Cloneable"), (0, .class_ 1), (0, u "java/lang/Object"), (0, .class_ 3)] 3

/-- java/lang/Cloneable -/
def k13 : Class := { plain "java/lang/Cloneable" (some 0) with
  accessFlags := 1537
  interfaces := #[]
  cf := some (fileOf pool13 2 #[] #[] 1537 4 #[] #[])
  fields := #[]
  methods := #[]
  instanceTypes := #[]
  staticTypes := #[]
  resolved := Array.replicate 8 none
  statics := none }

/-- the primitive byte -/
def k14 : Class := { plain "byte" none with kind := .primitive 'B', accessFlags := 0x411 }
/-- [B -/
def k15 : Class := { plain "[B" (some 0) with kind := .array 14 .byte, interfaces := #[13, 2], accessFlags := 1041 }

/-- the primitive char -/
def k16 : Class := { plain "char" none with kind := .primitive 'C', accessFlags := 0x411 }
/-- [C -/
def k17 : Class := { plain "[C" (some 0) with kind := .array 16 .char, interfaces := #[13, 2], accessFlags := 1041 }

/-- the primitive int -/
def k18 : Class := { plain "int" none with kind := .primitive 'I', accessFlags := 0x411 }
/-- [I -/
def k19 : Class := { plain "[I" (some 0) with kind := .array 18 .int, interfaces := #[13, 2], accessFlags := 1041 }

def heap : Heap := #[{ cls := 7, slots := #[.long 0, .int 1, .null, .int 0, .null, .int 0, .int 0], vm := .statics 7 },
  { cls := 9, slots := #[.int 0, .int 8, .int 0, .int 1], vm := .statics 9 },
  { cls := 10, slots := #[.null, .null, .null], vm := .statics 10 }]
def classes : Array Class := #[k0, k1, k2, k3, k4, k5, k6, k7, k8, k9, k10, k11, k12, k13, k14, k15, k16, k17, k18, k19]
def interned : List (Array UInt16 × Addr) := []
def slotsUsed : Nat := 14
def theMethod : MethodId := ⟨1, 5⟩
def args0 : Array Value := #[.int 3, .long 5, .int 0, .int 2]
def aboutOver (below : List Frame) : State where
  vm := { classes := classes, interned := interned.toArray }
  heap := heap
  slotsUsed := slotsUsed
  threads := #[{ frames := .invoking theMethod args0 :: below }]
def below0 : List Frame := [.native { method := ⟨0, 0⟩, args := #[] }]
def about1 : State := aboutOver below0
def p0 : Program := .bare "" "" ""
def e0 : Env := launch0.env 0 0 0
theorem w_frames : about1.frames = Frame.invoking theMethod args0 :: below0 := rfl
set_option maxRecDepth 65536 in
theorem w_args : argsFit about1.vm theMethod args0 = true := by decide +kernel
set_option maxRecDepth 65536 in
theorem w_heap : heapFits about1 = true := by decide +kernel
set_option maxRecDepth 65536 in
theorem w_runnable : about1.curStatus? = some .runnable := by decide +kernel
set_option maxRecDepth 65536 in
theorem w_alone : about1.alone = true := by decide +kernel
set_option maxRecDepth 65536 in
theorem w_named : about1.methodNamed? x = some theMethod := by decide +kernel
set_option maxRecDepth 65536 in
theorem w_hears : about1.hears theMethod below0 = true := by decide +kernel
set_option maxRecDepth 65536 in
theorem w_ripe : about1.ripe theMethod args0 below0 = true := by decide +kernel
theorem w_running : about1.status = .running := rfl
set_option maxRecDepth 65536 in
theorem w_room : about1.hasRoom e0.platform room_1 = true :=
  launch0.hasRoom_least _ room_1 (by decide +kernel) (by decide +kernel) (by decide +kernel) (by decide +kernel) (by decide +kernel) (by decide +kernel)
theorem allAtoms_all (ts : List Jvm.Cond) (a : Array Jvm.Value) (st : Jvm.State) : (allAtoms ts).before a st = ts.all (fun c => c.before a st) := by
  induction ts with
  | nil => rfl
  | cons c t ih =>
    show (Jvm.Cond.and c (allAtoms t)).before a st = _
    rw [Jvm.Cond.before_and, ih, List.all_cons]
def words1 : List Jvm.Cond := Jvm.Cond.code x code maxLocals ret :: tables_1
/-- a 'code' word, met by the world's own term for the bytes: nothing is compared byte by byte -/
theorem code_word {y : MethodName} {bytes : ByteArray} {mx : Nat} {rt : Option FieldType} {a : Array Value} {s : State} {m : MethodId} {meth : Method} {c : Code} (h1 : s.methodNamed? y = some m) (h2 : s.vm.method? m = some meth) (h3 : meth.code = some c) (h4 : c.code = bytes)
    (h5 : (c.maxLocals == mx && c.exceptionTable.isEmpty && decide (c.maxStack ≤ mostOperands) && decide (meth.sig.returnType = rt) && !meth.locks && decide (parseMethodDescriptor y.desc = some meth.sig)) = true) : (Jvm.Cond.code y bytes mx rt).before a s = true := by
  simp only [Bool.and_eq_true, beq_iff_eq, Bool.not_eq_true', decide_eq_true_eq] at h5
  obtain ⟨⟨⟨⟨⟨g1, g2⟩, g3⟩, g4⟩, g5⟩, g6⟩ := h5
  simp [Cond.before, Cond.holds, Cond.value, h1, h2, h3, h4, g1, g2, g3, g4, g5, g6]
def isCode : Jvm.Cond → Bool
  | .code _ _ _ _ => true
  | _ => false
theorem all_split {L : List Jvm.Cond} {P : Jvm.Cond → Bool} (h1 : L.all (fun c => isCode c || P c) = true) (h2 : ∀ c ∈ L.filter isCode, P c = true) : L.all P = true := by
  refine List.all_eq_true.mpr fun c hc => ?_
  have h := List.all_eq_true.mp h1 c hc
  rcases Bool.eq_false_or_eq_true (isCode c) with hi | hi
  · exact h2 c (List.mem_filter.mpr ⟨hc, hi⟩)
  · simpa [hi] using h
set_option maxRecDepth 65536 in
theorem w_c0 : (Jvm.Cond.code x code maxLocals ret).before args0 about1 = true := code_word (m := ⟨1, 5⟩) (meth := k1m5) (c := k1c5) (by decide +kernel) rfl rfl rfl (by decide +kernel)
set_option maxRecDepth 65536 in
theorem w_c1 : (Jvm.Cond.code ({ cls := "com/example/kontraktbuch/kontraktbuch/NotationIsDigitsPinLaw", name := "draw", desc := "(JII)C" } : Jvm.MethodName) method_2_code (5 : Nat) (Option.some Jvm.ClassFile.FieldType.char)).before args0 about1 = true := code_word (m := ⟨1, 1⟩) (meth := k1m1) (c := k1c1) (by decide +kernel) rfl rfl rfl (by decide +kernel)
set_option maxRecDepth 65536 in
theorem w_c2 : (Jvm.Cond.code ({ cls := "com/example/kontraktbuch/kontraktbuch/NotationIsDigitsPinLaw", name := "make", desc := "(ICCCC)Ljava/lang/String;" } : Jvm.MethodName) method_5_code (5 : Nat) (Option.some (Jvm.ClassFile.FieldType.object "java/lang/String"))).before args0 about1 = true := code_word (m := ⟨1, 4⟩) (meth := k1m4) (c := k1c4) (by decide +kernel) rfl rfl rfl (by decide +kernel)
set_option maxRecDepth 65536 in
theorem w_c3 : (Jvm.Cond.code ({ cls := "java/lang/String", name := "<init>", desc := "([C)V" } : Jvm.MethodName) jdk_42_method_3_code (2 : Nat) (Option.none : Option Jvm.ClassFile.FieldType)).before args0 about1 = true := code_word (m := ⟨7, 1⟩) (meth := k7m1) (c := k7c1) (by decide +kernel) rfl rfl rfl (by decide +kernel)
set_option maxRecDepth 65536 in
theorem w_c4 : (Jvm.Cond.code ({ cls := "java/lang/String", name := "<init>", desc := "([CIILjava/lang/Void;)V" } : Jvm.MethodName) jdk_42_method_149_code (6 : Nat) (Option.none : Option Jvm.ClassFile.FieldType)).before args0 about1 = true := code_word (m := ⟨7, 4⟩) (meth := k7m4) (c := k7c4) (by decide +kernel) rfl rfl rfl (by decide +kernel)
set_option maxRecDepth 65536 in
theorem w_c5 : (Jvm.Cond.code ({ cls := "java/lang/Object", name := "<init>", desc := "()V" } : Jvm.MethodName) object_method_1_code (1 : Nat) (Option.none : Option Jvm.ClassFile.FieldType)).before args0 about1 = true := code_word (m := ⟨0, 0⟩) (meth := k0m0) (c := k0c0) (by decide +kernel) rfl rfl rfl (by decide +kernel)
set_option maxRecDepth 65536 in
theorem w_c6 : (Jvm.Cond.code ({ cls := "com/example/kontraktbuch/kontraktbuch/Notation", name := "isDigits", desc := "(Ljava/lang/String;II)Z" } : Jvm.MethodName) prog_29_method_10_code (5 : Nat) (Option.some Jvm.ClassFile.FieldType.boolean)).before args0 about1 = true := code_word (m := ⟨8, 1⟩) (meth := k8m1) (c := k8c1) (by decide +kernel) rfl rfl rfl (by decide +kernel)
set_option maxRecDepth 65536 in
theorem w_c7 : (Jvm.Cond.code ({ cls := "java/lang/StringUTF16", name := "compress", desc := "([CII)[B" } : Jvm.MethodName) jdk_52_method_16_code (6 : Nat) (Option.some (Jvm.ClassFile.FieldType.array Jvm.ClassFile.FieldType.byte))).before args0 about1 = true := code_word (m := ⟨9, 8⟩) (meth := k9m8) (c := k9c8) (by decide +kernel) rfl rfl rfl (by decide +kernel)
set_option maxRecDepth 65536 in
theorem w_c8 : (Jvm.Cond.code ({ cls := "java/lang/StringUTF16", name := "compress", desc := "([CI[BII)I" } : Jvm.MethodName) jdk_52_method_21_code (7 : Nat) (Option.some Jvm.ClassFile.FieldType.int)).before args0 about1 = true := code_word (m := ⟨9, 9⟩) (meth := k9m9) (c := k9c9) (by decide +kernel) rfl rfl rfl (by decide +kernel)
set_option maxRecDepth 65536 in
theorem w_c9 : (Jvm.Cond.code ({ cls := "java/lang/StringUTF16", name := "coderFromArrayLen", desc := "([BI)B" } : Jvm.MethodName) jdk_52_method_15_code (2 : Nat) (Option.some Jvm.ClassFile.FieldType.byte)).before args0 about1 = true := code_word (m := ⟨9, 7⟩) (meth := k9m7) (c := k9c7) (by decide +kernel) rfl rfl rfl (by decide +kernel)
set_option maxRecDepth 65536 in
theorem w_c10 : (Jvm.Cond.code ({ cls := "java/lang/StringUTF16", name := "toBytes", desc := "([CII)[B" } : Jvm.MethodName) jdk_52_method_14_code (5 : Nat) (Option.some (Jvm.ClassFile.FieldType.array Jvm.ClassFile.FieldType.byte))).before args0 about1 = true := code_word (m := ⟨9, 6⟩) (meth := k9m6) (c := k9c6) (by decide +kernel) rfl rfl rfl (by decide +kernel)
set_option maxRecDepth 65536 in
theorem w_c11 : (Jvm.Cond.code ({ cls := "java/lang/StringUTF16", name := "newBytesFor", desc := "(I)[B" } : Jvm.MethodName) jdk_52_method_2_code (1 : Nat) (Option.some (Jvm.ClassFile.FieldType.array Jvm.ClassFile.FieldType.byte))).before args0 about1 = true := code_word (m := ⟨9, 1⟩) (meth := k9m1) (c := k9c1) (by decide +kernel) rfl rfl rfl (by decide +kernel)
set_option maxRecDepth 65536 in
theorem w_c12 : (Jvm.Cond.code ({ cls := "java/lang/StringUTF16", name := "newBytesLength", desc := "(I)I" } : Jvm.MethodName) jdk_52_method_3_code (1 : Nat) (Option.some Jvm.ClassFile.FieldType.int)).before args0 about1 = true := code_word (m := ⟨9, 2⟩) (meth := k9m2) (c := k9c2) (by decide +kernel) rfl rfl rfl (by decide +kernel)
set_option maxRecDepth 65536 in
theorem w_c13 : (Jvm.Cond.code ({ cls := "java/lang/StringUTF16", name := "putChar", desc := "([BII)V" } : Jvm.MethodName) jdk_52_method_4_code (3 : Nat) (Option.none : Option Jvm.ClassFile.FieldType)).before args0 about1 = true := code_word (m := ⟨9, 3⟩) (meth := k9m3) (c := k9c3) (by decide +kernel) rfl rfl rfl (by decide +kernel)
set_option maxRecDepth 65536 in
theorem w_c14 : (Jvm.Cond.code ({ cls := "java/lang/StringUTF16", name := "getChar", desc := "([BI)C" } : Jvm.MethodName) jdk_52_method_5_code (2 : Nat) (Option.some Jvm.ClassFile.FieldType.char)).before args0 about1 = true := code_word (m := ⟨9, 4⟩) (meth := k9m4) (c := k9c4) (by decide +kernel) rfl rfl rfl (by decide +kernel)
set_option maxRecDepth 65536 in
theorem w_c15 : (Jvm.Cond.code ({ cls := "java/lang/String", name := "length", desc := "()I" } : Jvm.MethodName) jdk_42_method_54_code (1 : Nat) (Option.some Jvm.ClassFile.FieldType.int)).before args0 about1 = true := code_word (m := ⟨7, 2⟩) (meth := k7m2) (c := k7c2) (by decide +kernel) rfl rfl rfl (by decide +kernel)
set_option maxRecDepth 65536 in
theorem w_c16 : (Jvm.Cond.code ({ cls := "java/lang/String", name := "coder", desc := "()B" } : Jvm.MethodName) jdk_42_method_152_code (1 : Nat) (Option.some Jvm.ClassFile.FieldType.byte)).before args0 about1 = true := code_word (m := ⟨7, 5⟩) (meth := k7m5) (c := k7c5) (by decide +kernel) rfl rfl rfl (by decide +kernel)
set_option maxRecDepth 65536 in
theorem w_c17 : (Jvm.Cond.code ({ cls := "com/example/kontraktbuch/kontraktbuch/NotationIsDigitsPinLaw", name := "fine", desc := "(CIII)Z" } : Jvm.MethodName) method_4_code (4 : Nat) (Option.some Jvm.ClassFile.FieldType.boolean)).before args0 about1 = true := code_word (m := ⟨1, 3⟩) (meth := k1m3) (c := k1c3) (by decide +kernel) rfl rfl rfl (by decide +kernel)
set_option maxRecDepth 65536 in
theorem w_c18 : (Jvm.Cond.code ({ cls := "com/example/kontraktbuch/kontraktbuch/NotationIsDigitsPinLaw", name := "asciiDigit", desc := "(C)Z" } : Jvm.MethodName) method_3_code (1 : Nat) (Option.some Jvm.ClassFile.FieldType.boolean)).before args0 about1 = true := code_word (m := ⟨1, 2⟩) (meth := k1m2) (c := k1c2) (by decide +kernel) rfl rfl rfl (by decide +kernel)
set_option maxRecDepth 65536 in
theorem w_c19 : (Jvm.Cond.code ({ cls := "java/lang/String", name := "charAt", desc := "(I)C" } : Jvm.MethodName) jdk_42_method_56_code (2 : Nat) (Option.some Jvm.ClassFile.FieldType.char)).before args0 about1 = true := code_word (m := ⟨7, 3⟩) (meth := k7m3) (c := k7c3) (by decide +kernel) rfl rfl rfl (by decide +kernel)
set_option maxRecDepth 65536 in
theorem w_c20 : (Jvm.Cond.code ({ cls := "java/lang/String", name := "isLatin1", desc := "()Z" } : Jvm.MethodName) jdk_42_method_154_code (1 : Nat) (Option.some Jvm.ClassFile.FieldType.boolean)).before args0 about1 = true := code_word (m := ⟨7, 6⟩) (meth := k7m6) (c := k7c6) (by decide +kernel) rfl rfl rfl (by decide +kernel)
set_option maxRecDepth 65536 in
theorem w_c21 : (Jvm.Cond.code ({ cls := "java/lang/StringUTF16", name := "charAt", desc := "([BI)C" } : Jvm.MethodName) jdk_52_method_83_code (2 : Nat) (Option.some Jvm.ClassFile.FieldType.char)).before args0 about1 = true := code_word (m := ⟨9, 10⟩) (meth := k9m10) (c := k9c10) (by decide +kernel) rfl rfl rfl (by decide +kernel)
set_option maxRecDepth 65536 in
theorem w_c22 : (Jvm.Cond.code ({ cls := "java/lang/StringUTF16", name := "checkIndex", desc := "(I[B)V" } : Jvm.MethodName) jdk_52_method_91_code (2 : Nat) (Option.none : Option Jvm.ClassFile.FieldType)).before args0 about1 = true := code_word (m := ⟨9, 11⟩) (meth := k9m11) (c := k9c11) (by decide +kernel) rfl rfl rfl (by decide +kernel)
set_option maxRecDepth 65536 in
theorem w_c23 : (Jvm.Cond.code ({ cls := "java/lang/StringUTF16", name := "length", desc := "([B)I" } : Jvm.MethodName) jdk_52_method_6_code (1 : Nat) (Option.some Jvm.ClassFile.FieldType.int)).before args0 about1 = true := code_word (m := ⟨9, 5⟩) (meth := k9m5) (c := k9c5) (by decide +kernel) rfl rfl rfl (by decide +kernel)
set_option maxRecDepth 65536 in
theorem w_c24 : (Jvm.Cond.code ({ cls := "java/lang/String", name := "checkIndex", desc := "(II)V" } : Jvm.MethodName) jdk_42_method_155_code (2 : Nat) (Option.none : Option Jvm.ClassFile.FieldType)).before args0 about1 = true := code_word (m := ⟨7, 7⟩) (meth := k7m7) (c := k7c7) (by decide +kernel) rfl rfl rfl (by decide +kernel)
set_option maxRecDepth 65536 in
theorem w_c25 : (Jvm.Cond.code ({ cls := "jdk/internal/util/Preconditions", name := "checkIndex", desc := "(IILjava/util/function/BiFunction;)I" } : Jvm.MethodName) jdk_41_method_11_code (3 : Nat) (Option.some Jvm.ClassFile.FieldType.int)).before args0 about1 = true := code_word (m := ⟨10, 1⟩) (meth := k10m1) (c := k10c1) (by decide +kernel) rfl rfl rfl (by decide +kernel)
set_option maxRecDepth 65536 in
theorem w_c26 : (Jvm.Cond.code ({ cls := "java/lang/StringLatin1", name := "charAt", desc := "([BI)C" } : Jvm.MethodName) jdk_43_method_2_code (2 : Nat) (Option.some Jvm.ClassFile.FieldType.char)).before args0 about1 = true := code_word (m := ⟨11, 1⟩) (meth := k11m1) (c := k11c1) (by decide +kernel) rfl rfl rfl (by decide +kernel)
def codes1 : List Jvm.Cond := [Jvm.Cond.code x code maxLocals ret, Jvm.Cond.code ({ cls := "com/example/kontraktbuch/kontraktbuch/NotationIsDigitsPinLaw", name := "draw", desc := "(JII)C" } : Jvm.MethodName) method_2_code (5 : Nat) (Option.some Jvm.ClassFile.FieldType.char), Jvm.Cond.code ({ cls := "com/example/kontraktbuch/kontraktbuch/NotationIsDigitsPinLaw", name := "make", desc := "(ICCCC)Ljava/lang/String;" } : Jvm.MethodName) method_5_code (5 : Nat) (Option.some (Jvm.ClassFile.FieldType.object "java/lang/String")), Jvm.Cond.code ({ cls := "java/lang/String", name := "<init>", desc := "([C)V" } : Jvm.MethodName) jdk_42_method_3_code (2 : Nat) (Option.none : Option Jvm.ClassFile.FieldType), Jvm.Cond.code ({ cls := "java/lang/String", name := "<init>", desc := "([CIILjava/lang/Void;)V" } : Jvm.MethodName) jdk_42_method_149_code (6 : Nat) (Option.none : Option Jvm.ClassFile.FieldType), Jvm.Cond.code ({ cls := "java/lang/Object", name := "<init>", desc := "()V" } : Jvm.MethodName) object_method_1_code (1 : Nat) (Option.none : Option Jvm.ClassFile.FieldType), Jvm.Cond.code ({ cls := "com/example/kontraktbuch/kontraktbuch/Notation", name := "isDigits", desc := "(Ljava/lang/String;II)Z" } : Jvm.MethodName) prog_29_method_10_code (5 : Nat) (Option.some Jvm.ClassFile.FieldType.boolean), Jvm.Cond.code ({ cls := "java/lang/StringUTF16", name := "compress", desc := "([CII)[B" } : Jvm.MethodName) jdk_52_method_16_code (6 : Nat) (Option.some (Jvm.ClassFile.FieldType.array Jvm.ClassFile.FieldType.byte)), Jvm.Cond.code ({ cls := "java/lang/StringUTF16", name := "compress", desc := "([CI[BII)I" } : Jvm.MethodName) jdk_52_method_21_code (7 : Nat) (Option.some Jvm.ClassFile.FieldType.int), Jvm.Cond.code ({ cls := "java/lang/StringUTF16", name := "coderFromArrayLen", desc := "([BI)B" } : Jvm.MethodName) jdk_52_method_15_code (2 : Nat) (Option.some Jvm.ClassFile.FieldType.byte), Jvm.Cond.code ({ cls := "java/lang/StringUTF16", name := "toBytes", desc := "([CII)[B" } : Jvm.MethodName) jdk_52_method_14_code (5 : Nat) (Option.some (Jvm.ClassFile.FieldType.array Jvm.ClassFile.FieldType.byte)), Jvm.Cond.code ({ cls := "java/lang/StringUTF16", name := "newBytesFor", desc := "(I)[B" } : Jvm.MethodName) jdk_52_method_2_code (1 : Nat) (Option.some (Jvm.ClassFile.FieldType.array Jvm.ClassFile.FieldType.byte)), Jvm.Cond.code ({ cls := "java/lang/StringUTF16", name := "newBytesLength", desc := "(I)I" } : Jvm.MethodName) jdk_52_method_3_code (1 : Nat) (Option.some Jvm.ClassFile.FieldType.int), Jvm.Cond.code ({ cls := "java/lang/StringUTF16", name := "putChar", desc := "([BII)V" } : Jvm.MethodName) jdk_52_method_4_code (3 : Nat) (Option.none : Option Jvm.ClassFile.FieldType), Jvm.Cond.code ({ cls := "java/lang/StringUTF16", name := "getChar", desc := "([BI)C" } : Jvm.MethodName) jdk_52_method_5_code (2 : Nat) (Option.some Jvm.ClassFile.FieldType.char), Jvm.Cond.code ({ cls := "java/lang/String", name := "length", desc := "()I" } : Jvm.MethodName) jdk_42_method_54_code (1 : Nat) (Option.some Jvm.ClassFile.FieldType.int), Jvm.Cond.code ({ cls := "java/lang/String", name := "coder", desc := "()B" } : Jvm.MethodName) jdk_42_method_152_code (1 : Nat) (Option.some Jvm.ClassFile.FieldType.byte), Jvm.Cond.code ({ cls := "com/example/kontraktbuch/kontraktbuch/NotationIsDigitsPinLaw", name := "fine", desc := "(CIII)Z" } : Jvm.MethodName) method_4_code (4 : Nat) (Option.some Jvm.ClassFile.FieldType.boolean), Jvm.Cond.code ({ cls := "com/example/kontraktbuch/kontraktbuch/NotationIsDigitsPinLaw", name := "asciiDigit", desc := "(C)Z" } : Jvm.MethodName) method_3_code (1 : Nat) (Option.some Jvm.ClassFile.FieldType.boolean), Jvm.Cond.code ({ cls := "java/lang/String", name := "charAt", desc := "(I)C" } : Jvm.MethodName) jdk_42_method_56_code (2 : Nat) (Option.some Jvm.ClassFile.FieldType.char), Jvm.Cond.code ({ cls := "java/lang/String", name := "isLatin1", desc := "()Z" } : Jvm.MethodName) jdk_42_method_154_code (1 : Nat) (Option.some Jvm.ClassFile.FieldType.boolean), Jvm.Cond.code ({ cls := "java/lang/StringUTF16", name := "charAt", desc := "([BI)C" } : Jvm.MethodName) jdk_52_method_83_code (2 : Nat) (Option.some Jvm.ClassFile.FieldType.char), Jvm.Cond.code ({ cls := "java/lang/StringUTF16", name := "checkIndex", desc := "(I[B)V" } : Jvm.MethodName) jdk_52_method_91_code (2 : Nat) (Option.none : Option Jvm.ClassFile.FieldType), Jvm.Cond.code ({ cls := "java/lang/StringUTF16", name := "length", desc := "([B)I" } : Jvm.MethodName) jdk_52_method_6_code (1 : Nat) (Option.some Jvm.ClassFile.FieldType.int), Jvm.Cond.code ({ cls := "java/lang/String", name := "checkIndex", desc := "(II)V" } : Jvm.MethodName) jdk_42_method_155_code (2 : Nat) (Option.none : Option Jvm.ClassFile.FieldType), Jvm.Cond.code ({ cls := "jdk/internal/util/Preconditions", name := "checkIndex", desc := "(IILjava/util/function/BiFunction;)I" } : Jvm.MethodName) jdk_41_method_11_code (3 : Nat) (Option.some Jvm.ClassFile.FieldType.int), Jvm.Cond.code ({ cls := "java/lang/StringLatin1", name := "charAt", desc := "([BI)C" } : Jvm.MethodName) jdk_43_method_2_code (2 : Nat) (Option.some Jvm.ClassFile.FieldType.char)]
set_option maxRecDepth 65536 in
theorem codes_eq : words1.filter isCode = codes1 := rfl
theorem w_codes : ∀ c ∈ words1.filter isCode, c.before args0 about1 = true := by
  rw [codes_eq]
  intro c hc
  simp only [codes1, List.mem_cons, List.not_mem_nil, or_false] at hc
  rcases hc with rfl | rfl | rfl | rfl | rfl | rfl | rfl | rfl | rfl | rfl | rfl | rfl | rfl | rfl | rfl | rfl | rfl | rfl | rfl | rfl | rfl | rfl | rfl | rfl | rfl | rfl | rfl
  · exact w_c0
  · exact w_c1
  · exact w_c2
  · exact w_c3
  · exact w_c4
  · exact w_c5
  · exact w_c6
  · exact w_c7
  · exact w_c8
  · exact w_c9
  · exact w_c10
  · exact w_c11
  · exact w_c12
  · exact w_c13
  · exact w_c14
  · exact w_c15
  · exact w_c16
  · exact w_c17
  · exact w_c18
  · exact w_c19
  · exact w_c20
  · exact w_c21
  · exact w_c22
  · exact w_c23
  · exact w_c24
  · exact w_c25
  · exact w_c26
set_option maxRecDepth 65536 in
theorem w_t1 : (words1.take 24).all (fun c => isCode c || c.before args0 about1) = true := by decide +kernel
set_option maxRecDepth 65536 in
theorem w_t2 : ((words1.drop 24).take 24).all (fun c => isCode c || c.before args0 about1) = true := by decide +kernel
set_option maxRecDepth 65536 in
theorem w_t3 : (((words1.drop 24).drop 24).take 24).all (fun c => isCode c || c.before args0 about1) = true := by decide +kernel
set_option maxRecDepth 65536 in
theorem w_t4 : ((((words1.drop 24).drop 24).drop 24).take 24).all (fun c => isCode c || c.before args0 about1) = true := by decide +kernel
set_option maxRecDepth 65536 in
theorem w_t5 : ((((words1.drop 24).drop 24).drop 24).drop 24).all (fun c => isCode c || c.before args0 about1) = true := by decide +kernel
theorem w_tables : (allAtoms (Jvm.Cond.code x code maxLocals ret :: tables_1)).before args0 about1 = true := by
  rw [allAtoms_all]
  show words1.all (fun c => c.before args0 about1) = true
  refine all_split ?_ w_codes
  rw [← List.take_append_drop 24 words1, List.all_append, w_t1, ← List.take_append_drop 24 (words1.drop 24), List.all_append, w_t2, ← List.take_append_drop 24 ((words1.drop 24).drop 24), List.all_append, w_t3, ← List.take_append_drop 24 (((words1.drop 24).drop 24).drop 24), List.all_append, w_t4, w_t5]
  rfl
set_option maxRecDepth 65536 in
theorem w_rest : rest_1_c.before args0 about1 = true := by decide +kernel
set_option maxRecDepth 65536 in
theorem w_case : (Jvm.Cond.and given_1 narrow_1).before args0 about1 = true := by decide +kernel
set_option maxRecDepth 65536 in
theorem w_consts : constsHeld consts_1 about1 := Jvm.Lit.constsHeldB_iff.mp (by decide +kernel)
theorem w_applies : (headSpec (Jvm.Cond.code x code maxLocals ret :: tables_1) room_1).applies x e0.platform about1 = true :=
  (Spec.applies_iff w_frames).mpr ⟨w_running, w_runnable, w_alone, w_named, w_hears, w_ripe, w_room, w_tables⟩
theorem atStart : AtStart classFile x code maxLocals ret World_1 tables_1 room_1 Calls_1 rest_1 Pre_1 launch0 p0 e0 about1 theMethod args0 below0 :=
  ⟨lists_1, trivial, launch0.admits_env _ _ _, launch0.least_env, fairChoices_fair.cas, fairChoices_fair.clock, w_frames, w_args, w_heap, w_applies, ⟨w_consts, trivial⟩, w_rest, w_case⟩
end start1
theorem witness_1 : WitnessClaimed_1 := ⟨start1.p0, start1.e0, start1.about1, start1.theMethod, start1.args0, start1.below0, start1.atStart⟩
end Jvm.Pilot.@@N@@
