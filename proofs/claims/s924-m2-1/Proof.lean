import JvmDerived
import JvmDerived.Pilot.@@N@@Statement
import JvmDerived.Pilot.@@N@@Code
set_option linter.unusedVariables false
set_option linter.unusedSimpArgs false
/- laws to paste: Road.backV, Road.codOf, Road.chN (cut by pick.py; bodies as the Statement names them) -/
namespace Jvm.Pilot.@@N@@
namespace StrChars
open Jvm Sem ClassFile Op Lib Jvm.Stand Jvm.Free.XT Jvm.Free.ALB Jvm.Free.JM Jvm.Free
open Jvm.Lib.Cold (StaticIs)
/-- a char array whose places are chars -/
def Ch (a : Addr) (A : Cell) (U : State) : Prop := Arr .char a A U ∧ Typed .char A
theorem Ch.mv {a : Addr} {A : Cell} {U U' : State} (h : Ch a A U) (hal : U.vm.Alike U'.vm) (hh : U'.heap = U.heap) : Ch a A U' := ⟨h.1.mv hal hh, h.2⟩
theorem Ch.keep {a : Addr} {A : Cell} {U U' : State} (h : Ch a A U) (hal : U.vm.Alike U'.vm) (hk : U'.heap[a]? = some A) : Ch a A U' := ⟨h.1.keep hal hk, h.2⟩
/-- what place i of a char[]'s cell holds -/
def cv (A : Cell) (i : Nat) : Int32 := match A.slots[i]? with | some (.int x) => x | _ => 0
theorem Ch.get {a : Addr} {A : Cell} {U : State} (h : Ch a A U) {i : Nat} (hi : i < A.slots.size) : A.slots[i]? = some (.int (cv A i)) := by
  have e := Array.getElem?_eq_getElem hi
  have f := h.2 i _ e
  unfold cv; rw [e]
  generalize A.slots[i] = v at f
  cases v <;> simp [fits] at f ⊢
/-- the byte that i2b leaves of a char -/
def lo8 (x : Int32) : Int32 := x.toInt8.toInt32
theorem fits_lo8 (y : Int32) : fits .byte (.int (lo8 y)) = true := by
  have h1 := y.toInt8.le_toInt
  have h2 := y.toInt8.toInt_lt
  simp only [lo8, fits, Bool.and_eq_true, decide_eq_true_eq, Int32.le_iff_toInt_le, Int8.toInt_toInt32, show (-128 : Int32).toInt = -128 from by decide, show (127 : Int32).toInt = 127 from by decide]
  omega
/-- A' is A but that each place j of lo .. hi - 1 holds f j -/
def Laid (A A' : Cell) (lo hi : Nat) (f : Nat → Value) : Prop := A'.cls = A.cls ∧ A'.vm = A.vm ∧ A'.slots.size = A.slots.size ∧ ∀ i, A'.slots[i]? = if lo ≤ i ∧ i < hi then some (f i) else A.slots[i]?
theorem Laid.zero (A : Cell) (lo : Nat) (f : Nat → Value) : Laid A A lo (lo + 0) f := ⟨rfl, rfl, rfl, fun i => by rw [if_neg (by omega)]⟩
theorem Laid.step {A Ak : Cell} {lo k : Nat} {f : Nat → Value} {v : Value} (h : Laid A Ak lo k f) (hlo : lo ≤ k) (hk : k < Ak.slots.size) (hv : v = f k) : Laid A (Ak.setSlot k v) lo (k + 1) f := by
  refine ⟨h.1, h.2.1, by simpa [Cell.setSlot] using h.2.2.1, fun i => ?_⟩
  by_cases e : k = i
  · subst e; rw [Cell.slots_setSlot_self v hk, if_pos (by omega), hv]
  · rw [Cell.slots_setSlot_ne v e, h.2.2.2 i]
    by_cases q : lo ≤ i ∧ i < k
    · rw [if_pos q, if_pos (by omega)]
    · rw [if_neg q, if_neg (by omega)]
def U16 : String := "java/lang/StringUTF16"
namespace Cmp5
def yN : MethodName := ⟨"java/lang/StringUTF16", "compress", "([CI[BII)I"⟩
abbrev yB : ByteArray := jdk_52_method_21_code
theorem d0 : decode yB 0 = .ok (.iconst 0, 1) := by decide +kernel
theorem d1 : decode yB 1 = .ok (.istore 5, 2) := by decide +kernel
theorem d3 : decode yB 3 = .ok (.iload 5, 2) := by decide +kernel
theorem d5 : decode yB 5 = .ok (.iload 4, 2) := by decide +kernel
theorem d7 : decode yB 7 = .ok (.if_icmp (.ge) 37, 3) := by decide +kernel
theorem d10 : decode yB 10 = .ok (.aload_n 0, 1) := by decide +kernel
theorem d11 : decode yB 11 = .ok (.iload_n 1, 1) := by decide +kernel
theorem d12 : decode yB 12 = .ok (.caload, 1) := by decide +kernel
theorem d13 : decode yB 13 = .ok (.istore 6, 2) := by decide +kernel
theorem d15 : decode yB 15 = .ok (.iload 6, 2) := by decide +kernel
theorem d17 : decode yB 17 = .ok (.sipush 255, 3) := by decide +kernel
theorem d20 : decode yB 20 = .ok (.if_icmp (.le) 6, 3) := by decide +kernel
theorem d26 : decode yB 26 = .ok (.aload_n 2, 1) := by decide +kernel
theorem d27 : decode yB 27 = .ok (.iload_n 3, 1) := by decide +kernel
theorem d28 : decode yB 28 = .ok (.iload 6, 2) := by decide +kernel
theorem d30 : decode yB 30 = .ok (.i2b, 1) := by decide +kernel
theorem d31 : decode yB 31 = .ok (.bastore, 1) := by decide +kernel
theorem d32 : decode yB 32 = .ok (.iinc 1 1, 3) := by decide +kernel
theorem d35 : decode yB 35 = .ok (.iinc 3 1, 3) := by decide +kernel
theorem d38 : decode yB 38 = .ok (.iinc 5 1, 3) := by decide +kernel
theorem d41 : decode yB 41 = .ok (.goto (-38), 3) := by decide +kernel
theorem d44 : decode yB 44 = .ok (.iload 4, 2) := by decide +kernel
theorem d46 : decode yB 46 = .ok (.ireturn, 1) := by decide +kernel
def site : List Cond := []
def tab : Cond := tabOf yN yB 7 (some .int) site
def P (b : Addr) (A : Cell) (d : Addr) (B : Cell) (o q len : Nat) (args : Array Value) (s : State) : Prop := args = #[.ref b, .int (Int32.ofNat o), .ref d, .int (Int32.ofNat q), .int (Int32.ofNat len)] ∧ Ch b A s ∧ Arr .byte d B s ∧ b ≠ d ∧ o + len ≤ A.slots.size ∧ q + len ≤ B.slots.size ∧ ∀ i, i < len → ¬ 255 < cv A (o + i)
def E (b : Addr) (A : Cell) (d : Addr) (B : Cell) (o q len : Nat) (r : Option Value) (s u : State) : Prop := r = some (.int (Int32.ofNat len)) ∧ ∃ B', Put d B' s u ∧ Laid B B' q (q + len) (fun j => Value.int (lo8 (cv A (o + (j - q)))))
/-- no char of the range above 255: len; the places written hold each char's low byte -/
theorem law (l : Launch) (b : Addr) (A : Cell) (d : Addr) (B : Cell) (o q len : Nat) : Law l yN 5 5 0 0 yB 7 (some .int) site (P b A d B o q len) (E b A d B o q len) (copyLocs d q len) 0 0 := by
  refine Law.of_walk (plainFor_of_name (by decide +kernel)) (by decide +kernel) (by decide +kernel) (by decide) (fun _ _ h => by rw [h.1]; rfl) (fun _ U U' hal hh h => ⟨h.1, h.2.1.mv hal hh, h.2.2.1.mv hal hh, h.2.2.2⟩) (fun r U U' V V' h1 hal h2 h => ⟨h.1, h.2.elim fun B' q => ⟨B', q.1.mv h1 h2, q.2⟩⟩) ?_
  intro p e s m args below meth c s₁ X0 hexec hbytes hml hret hlk hnm hown hh0 W hP
  obtain ⟨rfl, hA, hB, hne, l1, l2, hp⟩ := hP
  have c1 : Steps p.tables e below (s₁.setTop (entryFrame m #[.ref b, .int (Int32.ofNat o), .ref d, .int (Int32.ofNat q), .int (Int32.ofNat len)] 7)) (s₁.setTop (mkF m 0 #[.val (.ref b), .val (.int (Int32.ofNat o)), .val (.ref d), .val (.int (Int32.ofNat q)), .val (.int (Int32.ofNat len)), .unset, .unset] [])) := entry rfl
  have hA0 := hA.1.mv X0.warmed.alike hh0
  have hB0 := hB.mv X0.warmed.alike hh0
  have a31 := hA.1.2.2.2
  have c2 : Steps p.tables e below (s₁.setTop (entryFrame m #[.ref b, .int (Int32.ofNat o), .ref d, .int (Int32.ofNat q), .int (Int32.ofNat len)] 7)) (s₁.setTop (mkF m 3 #[.val (.ref b), .val (.int (Int32.ofNat o)), .val (.ref d), .val (.int (Int32.ofNat q)), .val (.int (Int32.ofNat len)), .val (.int 0), .unset] [])) := c1.trans (by
    refine iconstV X0.here hexec rfl 0 (hb hbytes d0) (by decide) ?_
    refine XS.istore X0.here hexec rfl (hb hbytes d1) rfl rfl ?_
    exact Steps.refl _)
  have loop : ∀ (r i : Nat), i + r = len → ∀ (z : Slot), (z = .unset ∨ ∃ w, z = .val w ∧ w.category = 1) → ∀ (Tl : State) (Bk : Cell), Stand p l e { frames := 0, locals := 0, cells := 0, slots := 0 } s m #[.ref b, .int (Int32.ofNat o), .ref d, .int (Int32.ofNat q), .int (Int32.ofNat len)] below meth c Tl ([] ++ copyLocs d q i) 0 0 → Put d Bk s₁ Tl → Laid B Bk q (q + i) (fun j => Value.int (lo8 (cv A (o + (j - q))))) →
      Steps p.tables e below (s₁.setTop (entryFrame m #[.ref b, .int (Int32.ofNat o), .ref d, .int (Int32.ofNat q), .int (Int32.ofNat len)] 7)) (Tl.setTop (mkF m 3 #[.val (.ref b), .val (.int (Int32.ofNat (o + i))), .val (.ref d), .val (.int (Int32.ofNat (q + i))), .val (.int (Int32.ofNat len)), .val (.int (Int32.ofNat i)), z] [])) → ∃ (T' : State) (B' : Cell) (z' : Slot), Stand p l e { frames := 0, locals := 0, cells := 0, slots := 0 } s m #[.ref b, .int (Int32.ofNat o), .ref d, .int (Int32.ofNat q), .int (Int32.ofNat len)] below meth c T' ([] ++ copyLocs d q len) 0 0 ∧ Put d B' s₁ T' ∧ Laid B B' q (q + len) (fun j => Value.int (lo8 (cv A (o + (j - q))))) ∧
      Steps p.tables e below (s₁.setTop (entryFrame m #[.ref b, .int (Int32.ofNat o), .ref d, .int (Int32.ofNat q), .int (Int32.ofNat len)] 7)) (T'.setTop (mkF m 3 #[.val (.ref b), .val (.int (Int32.ofNat (o + len))), .val (.ref d), .val (.int (Int32.ofNat (q + len))), .val (.int (Int32.ofNat len)), .val (.int (Int32.ofNat len)), z'] [])) := by
    intro r
    induction r with
    | zero =>
      intro i hi z hz Tl Bk Xl pl fl cl
      have hil : i = len := by omega
      rw [hil] at Xl fl cl
      exact ⟨Tl, Bk, z, Xl, pl, fl, cl⟩
    | succ r ih =>
      intro i hi z hz Tl Bk Xl pl fl cl
      have all := X0.warmed.alike.symm.trans Xl.warmed.alike
      have hAl := hA0.keep all (pl.other hne hA0.1)
      have hBk := hB0.like all pl.1 fl.1 fl.2.1 fl.2.2.1
      have hlt : q + i < Bk.slots.size := by rw [fl.2.2.1]; omega
      have c3 : Steps p.tables e below (s₁.setTop (entryFrame m #[.ref b, .int (Int32.ofNat o), .ref d, .int (Int32.ofNat q), .int (Int32.ofNat len)] 7)) (Tl.setTop (mkF m 12 #[.val (.ref b), .val (.int (Int32.ofNat (o + i))), .val (.ref d), .val (.int (Int32.ofNat (q + i))), .val (.int (Int32.ofNat len)), .val (.int (Int32.ofNat i)), z] [.int (Int32.ofNat (o + i)), .ref b])) := cl.trans (by
        refine XS.iload Xl.here hexec rfl (hb hbytes d3) rfl ?_
        refine XS.iload Xl.here hexec rfl (hb hbytes d5) rfl ?_
        refine XS.icmpNo Xl.here hexec rfl (hb hbytes d7) rfl (ii_ge_f (lt32 (by omega) (by omega))) ?_
        refine XS.aloadN Xl.here hexec rfl (hb hbytes d10) rfl rfl ?_
        refine XS.iloadN Xl.here hexec rfl (hb hbytes d11) rfl ?_
        exact Steps.refl _)
      have c4 : Steps p.tables e below (s₁.setTop (entryFrame m #[.ref b, .int (Int32.ofNat o), .ref d, .int (Int32.ofNat q), .int (Int32.ofNat len)] 7)) (Tl.setTop (mkF m 13 #[.val (.ref b), .val (.int (Int32.ofNat (o + i))), .val (.ref d), .val (.int (Int32.ofNat (q + i))), .val (.int (Int32.ofNat len)), .val (.int (Int32.ofNat i)), z] [.int (cv A (o + i))])) := c3.trans (by
        refine Xl.aget hexec hAl rfl (hA.get (i := o + i) (by omega)) rfl rfl (hb hbytes d12) ?_
        exact Steps.refl _)
      have c5 : Steps p.tables e below (s₁.setTop (entryFrame m #[.ref b, .int (Int32.ofNat o), .ref d, .int (Int32.ofNat q), .int (Int32.ofNat len)] 7)) (Tl.setTop (mkF m 15 #[.val (.ref b), .val (.int (Int32.ofNat (o + i))), .val (.ref d), .val (.int (Int32.ofNat (q + i))), .val (.int (Int32.ofNat len)), .val (.int (Int32.ofNat i)), .val (.int (cv A (o + i)))] [])) := c4.trans (by
        refine XS.istoreS Xl.here hexec rfl (hb hbytes d13) rfl rfl hz ?_
        exact Steps.refl _)
      have c6 : Steps p.tables e below (s₁.setTop (entryFrame m #[.ref b, .int (Int32.ofNat o), .ref d, .int (Int32.ofNat q), .int (Int32.ofNat len)] 7)) (Tl.setTop (mkF m 31 #[.val (.ref b), .val (.int (Int32.ofNat (o + i))), .val (.ref d), .val (.int (Int32.ofNat (q + i))), .val (.int (Int32.ofNat len)), .val (.int (Int32.ofNat i)), .val (.int (cv A (o + i)))] [.int (lo8 (cv A (o + i))), .int (Int32.ofNat (q + i)), .ref d])) := c5.trans (by
        refine XS.iload Xl.here hexec rfl (hb hbytes d15) rfl ?_
        refine sipushV Xl.here hexec rfl 255 (hb hbytes d17) (by decide) ?_
        refine XS.icmpYes Xl.here hexec rfl (pc0 := 20) rfl (hb hbytes d20) rfl (ii_le_t (hp i (by omega))) (by decide) rfl ?_
        refine XS.aloadN Xl.here hexec rfl (hb hbytes d26) rfl rfl ?_
        refine XS.iloadN Xl.here hexec rfl (hb hbytes d27) rfl ?_
        refine XS.iload Xl.here hexec rfl (hb hbytes d28) rfl ?_
        refine i2b Xl.here hexec rfl (hb hbytes d30) rfl ?_
        exact Steps.refl _)
      obtain ⟨T7, X7, p7, st7⟩ := Xl.aput hexec hBk rfl hlt rfl (fits_lo8 (cv A (o + i))) (g := (mkF m 31 #[.val (.ref b), .val (.int (Int32.ofNat (o + i))), .val (.ref d), .val (.int (Int32.ofNat (q + i))), .val (.int (Int32.ofNat len)), .val (.int (Int32.ofNat i)), .val (.int (cv A (o + i)))] [.int (lo8 (cv A (o + i))), .int (Int32.ofNat (q + i)), .ref d])) rfl (rest := []) rfl (hb hbytes d31)
      have c8 : Steps p.tables e below (s₁.setTop (entryFrame m #[.ref b, .int (Int32.ofNat o), .ref d, .int (Int32.ofNat q), .int (Int32.ofNat len)] 7)) (T7.setTop (mkF m 32 #[.val (.ref b), .val (.int (Int32.ofNat (o + i))), .val (.ref d), .val (.int (Int32.ofNat (q + i))), .val (.int (Int32.ofNat len)), .val (.int (Int32.ofNat i)), .val (.int (cv A (o + i)))] [])) := c6.trans (st7 _ (Steps.refl _))
      have c9 : Steps p.tables e below (s₁.setTop (entryFrame m #[.ref b, .int (Int32.ofNat o), .ref d, .int (Int32.ofNat q), .int (Int32.ofNat len)] 7)) (T7.setTop (mkF m 3 #[.val (.ref b), .val (.int (Int32.ofNat (o + i) + 1)), .val (.ref d), .val (.int (Int32.ofNat (q + i) + 1)), .val (.int (Int32.ofNat len)), .val (.int (Int32.ofNat i + 1)), .val (.int (cv A (o + i)))] [])) := c8.trans (by
        refine iincV X7.here hexec rfl 1 (hb hbytes d32) (by decide) rfl rfl ?_
        refine iincV X7.here hexec rfl 1 (hb hbytes d35) (by decide) rfl rfl ?_
        refine iincV X7.here hexec rfl 1 (hb hbytes d38) (by decide) rfl rfl ?_
        refine XS.goto X7.here hexec rfl (pc0 := 41) rfl (hb hbytes d41) (by decide) rfl ?_
        exact Steps.refl _)
      have c10 : Steps p.tables e below (s₁.setTop (entryFrame m #[.ref b, .int (Int32.ofNat o), .ref d, .int (Int32.ofNat q), .int (Int32.ofNat len)] 7)) (T7.setTop (mkF m 3 #[.val (.ref b), .val (.int (Int32.ofNat (o + (i + 1)))), .val (.ref d), .val (.int (Int32.ofNat (q + (i + 1)))), .val (.int (Int32.ofNat len)), .val (.int (Int32.ofNat (i + 1))), .val (.int (cv A (o + i)))] [])) := by
        have := c9
        rw [succ32, succ32, succ32] at this
        exact this
      exact ih (i + 1) (by omega) _ (Or.inr ⟨_, rfl, rfl⟩) T7 _ (by rw [copyLocs_step, ← List.append_assoc]; exact X7) (pl.trans p7) (fl.step (by omega) hlt (by simp)) c10
  obtain ⟨T9, B9, z9, X9, p9, f9, g9⟩ := loop len 0 (by omega) .unset (Or.inl rfl) s₁ B (by simpa [copyLocs] using X0) ⟨hB0.1, fun _ _ => rfl, rfl⟩ (Laid.zero _ _ _) c2
  have c11 : Steps p.tables e below (s₁.setTop (entryFrame m #[.ref b, .int (Int32.ofNat o), .ref d, .int (Int32.ofNat q), .int (Int32.ofNat len)] 7)) (T9.setTop (mkF m 46 #[.val (.ref b), .val (.int (Int32.ofNat (o + len))), .val (.ref d), .val (.int (Int32.ofNat (q + len))), .val (.int (Int32.ofNat len)), .val (.int (Int32.ofNat len)), z9] [.int (Int32.ofNat len)])) := g9.trans (by
    refine XS.iload X9.here hexec rfl (hb hbytes d3) rfl ?_
    refine XS.iload X9.here hexec rfl (hb hbytes d5) rfl ?_
    refine XS.icmpYes X9.here hexec rfl (pc0 := 7) rfl (hb hbytes d7) rfl (ii_ge_t (nlt32 (by omega) (Nat.le_refl _))) (by decide) rfl ?_
    refine XS.iload X9.here hexec rfl (hb hbytes d44) rfl ?_
    exact Steps.refl _)
  exact ⟨T9, some (.int (Int32.ofNat len)), _, _, _, X9, by simp, rfl, rfl, (fun h => by cases h), ⟨rfl, B9, p9.from hh0, f9⟩, fun fs hl => c11.trans (X9.ireturnOut hexec hret rfl (Or.inl rfl) (hb hbytes d46) hl)⟩
end Cmp5
namespace Cmp3
def yN : MethodName := ⟨"java/lang/StringUTF16", "compress", "([CII)[B"⟩
abbrev yB : ByteArray := jdk_52_method_16_code
theorem d0 : decode yB 0 = .ok (.iload_n 2, 1) := by decide +kernel
theorem d1 : decode yB 1 = .ok (.newarray .byte, 2) := by decide +kernel
theorem d3 : decode yB 3 = .ok (.astore_n 3, 1) := by decide +kernel
theorem d4 : decode yB 4 = .ok (.aload_n 0, 1) := by decide +kernel
theorem d5 : decode yB 5 = .ok (.iload_n 1, 1) := by decide +kernel
theorem d6 : decode yB 6 = .ok (.aload_n 3, 1) := by decide +kernel
theorem d7 : decode yB 7 = .ok (.iconst 0, 1) := by decide +kernel
theorem d8 : decode yB 8 = .ok (.iload_n 2, 1) := by decide +kernel
theorem d9 : decode yB 9 = .ok (.invokestatic 115, 3) := by decide +kernel
theorem d12 : decode yB 12 = .ok (.istore 4, 2) := by decide +kernel
theorem d14 : decode yB 14 = .ok (.iload 4, 2) := by decide +kernel
theorem d16 : decode yB 16 = .ok (.iload_n 2, 1) := by decide +kernel
theorem d17 : decode yB 17 = .ok (.if_icmp (.eq) 40, 3) := by decide +kernel
theorem d57 : decode yB 57 = .ok (.aload_n 3, 1) := by decide +kernel
theorem d58 : decode yB 58 = .ok (.areturn, 1) := by decide +kernel
def site : List Cond := [.arrayClass .byte, Cmp5.tab] ++ staticW U16 115 Cmp5.yN
def tab : Cond := tabOf yN yB 6 (some (.array .byte)) site
def P (b : Addr) (A : Cell) (o len : Nat) (args : Array Value) (s : State) : Prop := args = #[.ref b, .int (Int32.ofNat o), .int (Int32.ofNat len)] ∧ Ch b A s ∧ o + len ≤ A.slots.size ∧ len ≤ 536870912 ∧ ∀ i, i < len → ¬ 255 < cv A (o + i)
def E (b : Addr) (A : Cell) (o len : Nat) (r : Option Value) (s u : State) : Prop := NewArr .byte "[B" len (fun j => .int (lo8 (cv A (o + j)))) r s u ∧ u.heap.size = s.heap.size + 1
/-- no char of the range above 255: a new byte[] of their low bytes -/
theorem law (l : Launch) (b : Addr) (A : Cell) (o len : Nat) : Law l yN 3 3 1 18 yB 6 (some (.array .byte)) site (P b A o len) (E b A o len) [] 1 len := by
  refine Law.of_walk (plainFor_of_name (by decide +kernel)) (by decide +kernel) (by decide +kernel) (by decide) (fun _ _ h => by rw [h.1]; rfl) (fun _ U U' hal hh h => ⟨h.1, h.2.1.mv hal hh, h.2.2⟩) (fun r U U' V V' h1 hal h2 h => ⟨NewArr.mv r U U' V V' h1 hal h2 h.1, by rw [h1, h2]; exact h.2⟩) ?_
  intro p e s m args below meth c s₁ X0 hexec hbytes hml hret hlk hnm hown hh0 W hP
  obtain ⟨rfl, hA, l1, l2, hp⟩ := hP
  have a31 := hA.1.2.2.2
  have c1 : Steps p.tables e below (s₁.setTop (entryFrame m #[.ref b, .int (Int32.ofNat o), .int (Int32.ofNat len)] 6)) (s₁.setTop (mkF m 0 #[.val (.ref b), .val (.int (Int32.ofNat o)), .val (.int (Int32.ofNat len)), .unset, .unset, .unset] [])) := entry rfl
  have c2 : Steps p.tables e below (s₁.setTop (entryFrame m #[.ref b, .int (Int32.ofNat o), .int (Int32.ofNat len)] 6)) (s₁.setTop (mkF m 1 #[.val (.ref b), .val (.int (Int32.ofNat o)), .val (.int (Int32.ofNat len)), .unset, .unset, .unset] [.int (Int32.ofNat len)])) := c1.trans (by
    refine XS.iloadN X0.here hexec rfl (hb hbytes d0) rfl ?_
    exact Steps.refl _)
  obtain ⟨T3, B3, X3, ba3, bs3, bv3, bh3, bf3, st3⟩ := X0.anew hexec (atype := .byte) (wk W (.arrayClass .byte)) rfl (by show len * 1 ≤ _; omega) (by omega) (g := (mkF m 1 #[.val (.ref b), .val (.int (Int32.ofNat o)), .val (.int (Int32.ofNat len)), .unset, .unset, .unset] [.int (Int32.ofNat len)])) rfl (hb hbytes d1) (rest := []) rfl (Nat.le_refl _) (by show 0 + len ≤ len; omega)
  rw [hh0] at ba3 st3
  have kp3 : XT.Kept s T3 := (XT.Kept.of_eq hh0).push bh3
  have hA3 := hA.keep X3.warmed.alike (kp3 _ _ hA.1.1)
  have hne : b ≠ s.heap.size := hA.1.ne
  have c4 : Steps p.tables e below (s₁.setTop (entryFrame m #[.ref b, .int (Int32.ofNat o), .int (Int32.ofNat len)] 6)) (T3.setTop (mkF m 3 #[.val (.ref b), .val (.int (Int32.ofNat o)), .val (.int (Int32.ofNat len)), .unset, .unset, .unset] [.ref s.heap.size])) := c2.trans (st3 _ (Steps.refl _))
  have c5 : Steps p.tables e below (s₁.setTop (entryFrame m #[.ref b, .int (Int32.ofNat o), .int (Int32.ofNat len)] 6)) (T3.setTop (mkF m 9 #[.val (.ref b), .val (.int (Int32.ofNat o)), .val (.int (Int32.ofNat len)), .val (.ref s.heap.size), .unset, .unset] [.int (Int32.ofNat len), .int 0, .ref s.heap.size, .int (Int32.ofNat o), .ref b])) := c4.trans (by
    refine XS.astoreN X3.here hexec rfl (hb hbytes d3) rfl rfl rfl ?_
    refine XS.aloadN X3.here hexec rfl (hb hbytes d4) rfl rfl ?_
    refine XS.iloadN X3.here hexec rfl (hb hbytes d5) rfl ?_
    refine XS.aloadN X3.here hexec rfl (hb hbytes d6) rfl rfl ?_
    refine iconstV X3.here hexec rfl 0 (hb hbytes d7) (by decide) ?_
    refine XS.iloadN X3.here hexec rfl (hb hbytes d8) rfl ?_
    exact Steps.refl _)
  obtain ⟨v6, T6, X6, E6, g6⟩ := X3.callS hexec (Cmp5.law l b A s.heap.size B3 o 0 len) hown (wks W (staticW U16 115 Cmp5.yN)) (wk W Cmp5.tab) (W := 0) (Nat.le_of_ble_eq_true rfl) (Nat.le_of_ble_eq_true rfl) (Nat.le_refl _) (by show 0 + len + 0 ≤ len; omega) (g := (mkF m 9 #[.val (.ref b), .val (.int (Int32.ofNat o)), .val (.int (Int32.ofNat len)), .val (.ref s.heap.size), .unset, .unset] [.int (Int32.ofNat len), .int (Int32.ofNat 0), .ref s.heap.size, .int (Int32.ofNat o), .ref b])) rfl (by rw [hml]; rfl) c5 (argsL := [.ref b, .int (Int32.ofNat o), .ref s.heap.size, .int (Int32.ofNat 0), .int (Int32.ofNat len)]) (rest := []) rfl rfl (by show 2 * 0 + 0 ≤ _; decide) (hb hbytes d9) (⟨rfl, hA3, ba3, hne, l1, by rw [bs3]; simp, hp⟩)
  obtain ⟨rfl, B6, p6, f6⟩ := E6
  have c7 : Steps p.tables e below (s₁.setTop (entryFrame m #[.ref b, .int (Int32.ofNat o), .int (Int32.ofNat len)] 6)) (T6.setTop (mkF m 12 #[.val (.ref b), .val (.int (Int32.ofNat o)), .val (.int (Int32.ofNat len)), .val (.ref s.heap.size), .unset, .unset] [.int (Int32.ofNat len)])) := g6
  have c8 : Steps p.tables e below (s₁.setTop (entryFrame m #[.ref b, .int (Int32.ofNat o), .int (Int32.ofNat len)] 6)) (T6.setTop (mkF m 58 #[.val (.ref b), .val (.int (Int32.ofNat o)), .val (.int (Int32.ofNat len)), .val (.ref s.heap.size), .val (.int (Int32.ofNat len)), .unset] [.ref s.heap.size])) := c7.trans (by
    refine XS.istore X6.here hexec rfl (hb hbytes d12) rfl rfl ?_
    refine XS.iload X6.here hexec rfl (hb hbytes d14) rfl ?_
    refine XS.iloadN X6.here hexec rfl (hb hbytes d16) rfl ?_
    refine XS.icmpYes X6.here hexec rfl (pc0 := 17) rfl (hb hbytes d17) rfl (ii_eq_t rfl) (by decide) rfl ?_
    refine XS.aloadN X6.here hexec rfl (hb hbytes d57) rfl rfl ?_
    exact Steps.refl _)
  have X8 := X6.wide (L' := []) (cells' := 1) (slots' := len) (fun x hx hlt => by
    simp only [List.nil_append, copyLocs, List.mem_map, List.mem_range] at hx
    obtain ⟨i, -, rfl⟩ := hx
    exact absurd hlt (Nat.lt_irrefl _)) (Nat.le_refl _) (by omega)
  exact ⟨T6, some (.ref s.heap.size), _, _, _, X8, rfl, rfl, rfl, (fun h => by cases h), ⟨⟨rfl, B6, ba3.like (X3.warmed.alike.symm.trans X6.warmed.alike) p6.1 f6.1 f6.2.1 f6.2.2.1, f6.2.1.trans bv3, by rw [X6.warmed.alike.findClass, f6.1]; exact bf3, by rw [f6.2.2.1, bs3]; simp, fun j hj => by rw [f6.2.2.2 j, if_pos (by omega)]; rfl, kp3.put p6 (Nat.le_refl _)⟩, by rw [p6.2.2, bh3, hh0]; simp⟩, fun fs hl => c8.trans (X8.areturnOut hexec rfl hret rfl (hb hbytes d58) hl)⟩
end Cmp3
namespace CodL
def yN : MethodName := ⟨"java/lang/StringUTF16", "coderFromArrayLen", "([BI)B"⟩
abbrev yB : ByteArray := jdk_52_method_15_code
theorem d0 : decode yB 0 = .ok (.iload_n 1, 1) := by decide +kernel
theorem d1 : decode yB 1 = .ok (.aload_n 0, 1) := by decide +kernel
theorem d2 : decode yB 2 = .ok (.arraylength, 1) := by decide +kernel
theorem d3 : decode yB 3 = .ok (.isub, 1) := by decide +kernel
theorem d4 : decode yB 4 = .ok (.bipush 31, 2) := by decide +kernel
theorem d6 : decode yB 6 = .ok (.iushr, 1) := by decide +kernel
theorem d7 : decode yB 7 = .ok (.i2b, 1) := by decide +kernel
theorem d8 : decode yB 8 = .ok (.ireturn, 1) := by decide +kernel
def site : List Cond := []
def tab : Cond := tabOf yN yB 2 (some .byte) site
def P (d : Addr) (B : Cell) (args : Array Value) (s : State) : Prop := args = #[.ref d, .int (Int32.ofNat B.slots.size)] ∧ Arr .byte d B s
def E (r : Option Value) (s u : State) : Prop := XT.PureE (some (.int 0)) r s u
/-- an array as long as the number of chars: LATIN1 -/
theorem law (l : Launch) (d : Addr) (B : Cell) : Law l yN 2 2 0 0 yB 2 (some .byte) site (P d B) E [] 0 0 := by
  refine Law.of_walk (plainFor_of_name (by decide +kernel)) (by decide +kernel) (by decide +kernel) (by decide) (fun _ _ h => by rw [h.1]; rfl) (fun _ U U' hal hh h => ⟨h.1, h.2.mv hal hh⟩) (fun r U U' V V' h1 hal h2 h => XT.PureE.mv r U U' V V' h1 hal h2 h) ?_
  intro p e s m args below meth c s₁ X0 hexec hbytes hml hret hlk hnm hown hh0 W hP
  obtain ⟨rfl, hB⟩ := hP
  have hB0 := hB.mv X0.warmed.alike hh0
  have c1 : Steps p.tables e below (s₁.setTop (entryFrame m #[.ref d, .int (Int32.ofNat B.slots.size)] 2)) (s₁.setTop (mkF m 0 #[.val (.ref d), .val (.int (Int32.ofNat B.slots.size))] [])) := entry rfl
  have c2 : Steps p.tables e below (s₁.setTop (entryFrame m #[.ref d, .int (Int32.ofNat B.slots.size)] 2)) (s₁.setTop (mkF m 2 #[.val (.ref d), .val (.int (Int32.ofNat B.slots.size))] [.ref d, .int (Int32.ofNat B.slots.size)])) := c1.trans (by
    refine XS.iloadN X0.here hexec rfl (hb hbytes d0) rfl ?_
    refine XS.aloadN X0.here hexec rfl (hb hbytes d1) rfl rfl ?_
    exact Steps.refl _)
  have c3 : Steps p.tables e below (s₁.setTop (entryFrame m #[.ref d, .int (Int32.ofNat B.slots.size)] 2)) (s₁.setTop (mkF m 8 #[.val (.ref d), .val (.int (Int32.ofNat B.slots.size))] [.int (lo8 (ushr (Int32.ofNat B.slots.size - Int32.ofNat B.slots.size) 31))])) := c2.trans (by
    refine X0.alen hexec hB0 rfl rfl (hb hbytes d2) ?_
    refine XS.isub X0.here hexec rfl (hb hbytes d3) rfl ?_
    refine bipushV X0.here hexec rfl 31 (hb hbytes d4) (by decide) ?_
    refine iushr X0.here hexec rfl (hb hbytes d6) rfl ?_
    refine i2b X0.here hexec rfl (hb hbytes d7) rfl ?_
    exact Steps.refl _)
  have e0 : lo8 (ushr (Int32.ofNat B.slots.size - Int32.ofNat B.slots.size) 31) = 0 := by rw [Int32.sub_self]; decide
  rw [e0] at c3
  exact ⟨s₁, some (.int 0), _, _, _, X0, rfl, rfl, rfl, (fun h => by cases h), ⟨rfl, hh0⟩, fun fs hl => c3.trans (X0.ireturnOut hexec hret rfl (Or.inr (Or.inr (Or.inl rfl))) (hb hbytes d8) hl)⟩
end CodL
/-- the String at a is Latin-1 over a new byte[] (the heap's one new cell): the low bytes of the len chars of A from o on; every cell but a is kept -/
def Got (a : Addr) (D : Cell) (fV fC : Field) (A : Cell) (o len : Nat) (r : Option Value) (s u : State) : Prop := r = none ∧ ∃ D' V : Cell, Blank "java/lang/String" a D' u ∧ Same D D' [fV.slot, fC.slot] ∧ D'.slots[fV.slot]? = some (.ref s.heap.size) ∧ D'.slots[fC.slot]? = some (.int 0) ∧ Arr .byte s.heap.size V u ∧ V.vm = .none ∧ u.vm.findClass "[B" = some V.cls ∧ V.slots.size = len ∧ (∀ j, j < len → V.slots[j]? = some (.int (lo8 (cv A (o + j))))) ∧ (∀ (y : Addr) (c : Cell), y ≠ a → s.heap[y]? = some c → u.heap[y]? = some c) ∧ u.heap.size = s.heap.size + 1
theorem Got.mv {a : Addr} {D A : Cell} {fV fC : Field} {o len : Nat} : ∀ r (U U' V V' : State), U'.heap = U.heap → V.vm.Alike V'.vm → V'.heap = V.heap → Got a D fV fC A o len r U V → Got a D fV fC A o len r U' V' :=
  fun r U U' V V' h1 hal h2 ⟨e0, D', X, a1, a2, a3, a4, a5, a6, a7, a8, a9, a10, a11⟩ => ⟨e0, D', X, a1.mv hal h2, a2, by rw [h1]; exact a3, a4, by rw [h1]; exact a5.mv hal h2, a6, by rw [hal.findClass]; exact a7, a8, a9, by rw [h1, h2]; exact a10, by rw [h1, h2]; exact a11⟩
namespace New4
def yN : MethodName := ⟨"java/lang/String", "<init>", "([CIILjava/lang/Void;)V"⟩
abbrev yB : ByteArray := jdk_42_method_149_code
theorem d0 : decode yB 0 = .ok (.aload_n 0, 1) := by decide +kernel
theorem d1 : decode yB 1 = .ok (.invokespecial 1, 3) := by decide +kernel
theorem d4 : decode yB 4 = .ok (.iload_n 3, 1) := by decide +kernel
theorem d5 : decode yB 5 = .ok (.ifCond (.ne) 22, 3) := by decide +kernel
theorem d27 : decode yB 27 = .ok (.getstatic 38, 3) := by decide +kernel
theorem d30 : decode yB 30 = .ok (.ifCond (.eq) 28, 3) := by decide +kernel
theorem d33 : decode yB 33 = .ok (.aload_n 1, 1) := by decide +kernel
theorem d34 : decode yB 34 = .ok (.iload_n 2, 1) := by decide +kernel
theorem d35 : decode yB 35 = .ok (.iload_n 3, 1) := by decide +kernel
theorem d36 : decode yB 36 = .ok (.invokestatic 177, 3) := by decide +kernel
theorem d39 : decode yB 39 = .ok (.astore 5, 2) := by decide +kernel
theorem d41 : decode yB 41 = .ok (.aload_n 0, 1) := by decide +kernel
theorem d42 : decode yB 42 = .ok (.aload 5, 2) := by decide +kernel
theorem d44 : decode yB 44 = .ok (.iload_n 3, 1) := by decide +kernel
theorem d45 : decode yB 45 = .ok (.invokestatic 47, 3) := by decide +kernel
theorem d48 : decode yB 48 = .ok (.putfield 15, 3) := by decide +kernel
theorem d51 : decode yB 51 = .ok (.aload_n 0, 1) := by decide +kernel
theorem d52 : decode yB 52 = .ok (.aload 5, 2) := by decide +kernel
theorem d54 : decode yB 54 = .ok (.putfield 9, 3) := by decide +kernel
theorem d57 : decode yB 57 = .ok (.return_, 1) := by decide +kernel
def site : List Cond := [.fieldLink "java/lang/String" 38 "java/lang/String" "COMPACT_STRINGS" "Z", Cmp3.tab, CodL.tab, .laysFinal "java/lang/String" "java/lang/String" "value" "[B", .fieldLink "java/lang/String" 9 "java/lang/String" "value" "[B", .laysFinal "java/lang/String" "java/lang/String" "coder" "B", .fieldLink "java/lang/String" 15 "java/lang/String" "coder" "B"] ++ objW "java/lang/String" 1 ++ staticW "java/lang/String" 177 Cmp3.yN ++ staticW "java/lang/String" 47 CodL.yN
def tab : Cond := tabOf yN yB 6 none site
def P (a : Addr) (D : Cell) (fV fC : Field) (b : Addr) (A : Cell) (z : Int32) (o len : Nat) (args : Array Value) (s : State) : Prop := args = #[.ref a, .ref b, .int (Int32.ofNat o), .int (Int32.ofNat len), .null] ∧ Blank "java/lang/String" a D s ∧ Found "java/lang/String" "value" "[B" fV s ∧ Found "java/lang/String" "coder" "B" fC s ∧ Ch b A s ∧ StaticIs s "java/lang/String" "COMPACT_STRINGS" "Z" (.int z) ∧ ¬ z = 0 ∧ 0 < len ∧ o + len ≤ A.slots.size ∧ len ≤ 536870912 ∧ ∀ i, i < len → ¬ 255 < cv A (o + i)
def E (a : Addr) (D : Cell) (fV fC : Field) (A : Cell) (o len : Nat) (r : Option Value) (s u : State) : Prop := Got a D fV fC A o len r s u
/-- len > 0, no char of the range above 255: a Latin-1 String of their low bytes -/
theorem law (l : Launch) (a : Addr) (D : Cell) (fV fC : Field) (b : Addr) (A : Cell) (z : Int32) (o len : Nat) : Law l yN 5 4 2 35 yB 6 none site (P a D fV fC b A z o len) (E a D fV fC A o len) [⟨a, fC.slot⟩, ⟨a, fV.slot⟩] 1 len := by
  refine Law.of_walk (plainFor_of_name (by decide +kernel)) (by decide +kernel) (by decide +kernel) (by decide) (fun _ _ h => by rw [h.1]; rfl) (fun _ U U' hal hh h => ⟨h.1, h.2.1.mv hal hh, h.2.2.1.al hal, h.2.2.2.1.al hal, h.2.2.2.2.1.mv hal hh, h.2.2.2.2.2.1.there hal hh, h.2.2.2.2.2.2⟩) (fun r U U' V V' h1 hal h2 h => Got.mv r U U' V V' h1 hal h2 h) ?_
  intro p e s m args below meth c s₁ X0 hexec hbytes hml hret hlk hnm hown hh0 W hP
  obtain ⟨rfl, hB, f1, f2, hA, s1, hz, l0, l1, l2, hp⟩ := hP
  have a31 := hA.1.2.2.2
  have c1 : Steps p.tables e below (s₁.setTop (entryFrame m #[.ref a, .ref b, .int (Int32.ofNat o), .int (Int32.ofNat len), .null] 6)) (s₁.setTop (mkF m 0 #[.val (.ref a), .val (.ref b), .val (.int (Int32.ofNat o)), .val (.int (Int32.ofNat len)), .val .null, .unset] [])) := entry rfl
  have c2 : Steps p.tables e below (s₁.setTop (entryFrame m #[.ref a, .ref b, .int (Int32.ofNat o), .int (Int32.ofNat len), .null] 6)) (s₁.setTop (mkF m 1 #[.val (.ref a), .val (.ref b), .val (.int (Int32.ofNat o)), .val (.int (Int32.ofNat len)), .val .null, .unset] [.ref a])) := c1.trans (by
    refine XS.aloadN X0.here hexec rfl (hb hbytes d0) rfl rfl ?_
    exact Steps.refl _)
  obtain ⟨T3, X3, q3, st3⟩ := X0.oinit hexec hown (wks W (objW "java/lang/String" 1)) (g := (mkF m 1 #[.val (.ref a), .val (.ref b), .val (.int (Int32.ofNat o)), .val (.int (Int32.ofNat len)), .val .null, .unset] [.ref a])) rfl (by rw [hml]; rfl) (rest := []) rfl (hb hbytes d1) (W := 0) (by show 2 * 0 + 0 ≤ _; decide) (Nat.le_of_ble_eq_true rfl) (Nat.le_of_ble_eq_true rfl)
  have hh3 := q3.trans hh0
  have c4 : Steps p.tables e below (s₁.setTop (entryFrame m #[.ref a, .ref b, .int (Int32.ofNat o), .int (Int32.ofNat len), .null] 6)) (T3.setTop (mkF m 27 #[.val (.ref a), .val (.ref b), .val (.int (Int32.ofNat o)), .val (.int (Int32.ofNat len)), .val .null, .unset] [])) := (c2.trans (st3 _ (Steps.refl _))).trans (by
    refine XS.iloadN X3.here hexec rfl (hb hbytes d4) rfl ?_
    refine XS.ifYes X3.here hexec rfl (pc0 := 5) rfl (hb hbytes d5) rfl (i0_ne_t (nz32 (by omega) l0)) (by decide) rfl ?_
    exact Steps.refl _)
  obtain ⟨T5, X5, q5, st5⟩ := X3.sget hexec hown (wk W (.fieldLink "java/lang/String" 38 "java/lang/String" "COMPACT_STRINGS" "Z")) s1 (fun _ _ h => by rw [hh3]; exact h) (g := (mkF m 27 #[.val (.ref a), .val (.ref b), .val (.int (Int32.ofNat o)), .val (.int (Int32.ofNat len)), .val .null, .unset] [])) rfl (hb hbytes d27)
  have hh5 := q5.trans hh3
  have c6 : Steps p.tables e below (s₁.setTop (entryFrame m #[.ref a, .ref b, .int (Int32.ofNat o), .int (Int32.ofNat len), .null] 6)) (T5.setTop (mkF m 30 #[.val (.ref a), .val (.ref b), .val (.int (Int32.ofNat o)), .val (.int (Int32.ofNat len)), .val .null, .unset] [.int z])) := c4.trans (st5 _ (Steps.refl _))
  have c7 : Steps p.tables e below (s₁.setTop (entryFrame m #[.ref a, .ref b, .int (Int32.ofNat o), .int (Int32.ofNat len), .null] 6)) (T5.setTop (mkF m 36 #[.val (.ref a), .val (.ref b), .val (.int (Int32.ofNat o)), .val (.int (Int32.ofNat len)), .val .null, .unset] [.int (Int32.ofNat len), .int (Int32.ofNat o), .ref b])) := c6.trans (by
    refine XS.ifNo X5.here hexec rfl (hb hbytes d30) rfl (i0_eq_f hz) ?_
    refine XS.aloadN X5.here hexec rfl (hb hbytes d33) rfl rfl ?_
    refine XS.iloadN X5.here hexec rfl (hb hbytes d34) rfl ?_
    refine XS.iloadN X5.here hexec rfl (hb hbytes d35) rfl ?_
    exact Steps.refl _)
  obtain ⟨v8, T8, X8, E8, g8⟩ := X5.callS hexec (Cmp3.law l b A o len) hown (wks W (staticW "java/lang/String" 177 Cmp3.yN)) (wk W Cmp3.tab) (W := 0) (Nat.le_of_ble_eq_true rfl) (Nat.le_of_ble_eq_true rfl) (Nat.le_refl _) (by show 0 + len ≤ len; omega) (g := (mkF m 36 #[.val (.ref a), .val (.ref b), .val (.int (Int32.ofNat o)), .val (.int (Int32.ofNat len)), .val .null, .unset] [.int (Int32.ofNat len), .int (Int32.ofNat o), .ref b])) rfl (by rw [hml]; rfl) c7 (argsL := [.ref b, .int (Int32.ofNat o), .int (Int32.ofNat len)]) (rest := []) rfl rfl (by show 2 * 0 + 0 ≤ _; decide) (hb hbytes d36) (⟨rfl, hA.mv X5.warmed.alike hh5, l1, l2, hp⟩)
  obtain ⟨e8, z8⟩ := E8
  obtain ⟨rfl, N, n1, n2, n3, n4, n5, n6⟩ := NewArr.mv _ T5 s _ _ hh5.symm (Vm.Alike.refl _) rfl e8
  rw [hh5] at z8
  have hB1 := hB.keep X8.warmed.alike (n6 _ _ hB.1)
  have hne : s.heap.size ≠ a := (Nat.ne_of_lt (Array.getElem?_eq_some_iff.mp hB.1).1).symm
  have c9 : Steps p.tables e below (s₁.setTop (entryFrame m #[.ref a, .ref b, .int (Int32.ofNat o), .int (Int32.ofNat len), .null] 6)) (T8.setTop (mkF m 39 #[.val (.ref a), .val (.ref b), .val (.int (Int32.ofNat o)), .val (.int (Int32.ofNat len)), .val .null, .unset] [.ref s.heap.size])) := g8
  have c10 : Steps p.tables e below (s₁.setTop (entryFrame m #[.ref a, .ref b, .int (Int32.ofNat o), .int (Int32.ofNat len), .null] 6)) (T8.setTop (mkF m 45 #[.val (.ref a), .val (.ref b), .val (.int (Int32.ofNat o)), .val (.int (Int32.ofNat len)), .val .null, .val (.ref s.heap.size)] [.int (Int32.ofNat N.slots.size), .ref s.heap.size, .ref a])) := by
    have hc : Steps p.tables e below (s₁.setTop (entryFrame m #[.ref a, .ref b, .int (Int32.ofNat o), .int (Int32.ofNat len), .null] 6)) (T8.setTop (mkF m 45 #[.val (.ref a), .val (.ref b), .val (.int (Int32.ofNat o)), .val (.int (Int32.ofNat len)), .val .null, .val (.ref s.heap.size)] [.int (Int32.ofNat len), .ref s.heap.size, .ref a])) := c9.trans (by
      refine XS.astore X8.here hexec rfl (hb hbytes d39) rfl rfl rfl ?_
      refine XS.aloadN X8.here hexec rfl (hb hbytes d41) rfl rfl ?_
      refine XS.aload X8.here hexec rfl (hb hbytes d42) rfl rfl ?_
      refine XS.iloadN X8.here hexec rfl (hb hbytes d44) rfl ?_
      exact Steps.refl _)
    rw [n4]; exact hc
  obtain ⟨v11, T11, X11, E11, g11⟩ := X8.callS hexec (CodL.law l s.heap.size N) hown (wks W (staticW "java/lang/String" 47 CodL.yN)) (wk W CodL.tab) (W := 1) (Nat.le_of_ble_eq_true rfl) (Nat.le_of_ble_eq_true rfl) (Nat.le_refl _) (by show 0 + len + 0 ≤ len; omega) (g := (mkF m 45 #[.val (.ref a), .val (.ref b), .val (.int (Int32.ofNat o)), .val (.int (Int32.ofNat len)), .val .null, .val (.ref s.heap.size)] [.int (Int32.ofNat N.slots.size), .ref s.heap.size, .ref a])) rfl (by rw [hml]; rfl) c10 (argsL := [.ref s.heap.size, .int (Int32.ofNat N.slots.size)]) (rest := [.ref a]) rfl rfl (by show 2 * 0 + (1 + 0) ≤ _; decide) (hb hbytes d45) (⟨rfl, n1⟩)
  obtain ⟨rfl, q11⟩ := E11
  have hB11 := hB1.mv (X8.warmed.alike.symm.trans X11.warmed.alike) q11
  have c12 : Steps p.tables e below (s₁.setTop (entryFrame m #[.ref a, .ref b, .int (Int32.ofNat o), .int (Int32.ofNat len), .null] 6)) (T11.setTop (mkF m 48 #[.val (.ref a), .val (.ref b), .val (.int (Int32.ofNat o)), .val (.int (Int32.ofNat len)), .val .null, .val (.ref s.heap.size)] [.int 0, .ref a])) := g11
  obtain ⟨T13, X13, p13, bl13, sl13, st13⟩ := X11.finit hexec hown (wk W (.fieldLink "java/lang/String" 15 "java/lang/String" "coder" "B")) (Or.inr ⟨_, (wk W (.laysFinal "java/lang/String" "java/lang/String" "coder" "B"))⟩) (Or.inl ⟨rfl, hnm⟩) f2 (Or.inl rfl) hB11 (t := .byte) (by decide +kernel) rfl (g := (mkF m 48 #[.val (.ref a), .val (.ref b), .val (.int (Int32.ofNat o)), .val (.int (Int32.ofNat len)), .val .null, .val (.ref s.heap.size)] [.int 0, .ref a])) rfl (rest := []) rfl (hb hbytes d48)
  have c14 : Steps p.tables e below (s₁.setTop (entryFrame m #[.ref a, .ref b, .int (Int32.ofNat o), .int (Int32.ofNat len), .null] 6)) (T13.setTop (mkF m 54 #[.val (.ref a), .val (.ref b), .val (.int (Int32.ofNat o)), .val (.int (Int32.ofNat len)), .val .null, .val (.ref s.heap.size)] [.ref s.heap.size, .ref a])) := (c12.trans (st13 _ (Steps.refl _))).trans (by
    refine XS.aloadN X13.here hexec rfl (hb hbytes d51) rfl rfl ?_
    refine XS.aload X13.here hexec rfl (hb hbytes d52) rfl rfl ?_
    exact Steps.refl _)
  obtain ⟨T15, X15, p15, bl15, sl15, st15⟩ := X13.finit hexec hown (wk W (.fieldLink "java/lang/String" 9 "java/lang/String" "value" "[B")) (Or.inr ⟨_, (wk W (.laysFinal "java/lang/String" "java/lang/String" "value" "[B"))⟩) (Or.inl ⟨rfl, hnm⟩) f1 (Or.inl rfl) bl13 (t := (.array .byte)) (by decide +kernel) rfl (g := (mkF m 54 #[.val (.ref a), .val (.ref b), .val (.int (Int32.ofNat o)), .val (.int (Int32.ofNat len)), .val .null, .val (.ref s.heap.size)] [.ref s.heap.size, .ref a])) rfl (rest := []) rfl (hb hbytes d54)
  have c16 : Steps p.tables e below (s₁.setTop (entryFrame m #[.ref a, .ref b, .int (Int32.ofNat o), .int (Int32.ofNat len), .null] 6)) (T15.setTop (mkF m 57 #[.val (.ref a), .val (.ref b), .val (.int (Int32.ofNat o)), .val (.int (Int32.ofNat len)), .val .null, .val (.ref s.heap.size)] [])) := c14.trans (st15 _ (Steps.refl _))
  have ap := apart (Or.inr ⟨_, (wk W (.laysFinal "java/lang/String" "java/lang/String" "value" "[B"))⟩) (Or.inr ⟨_, (wk W (.laysFinal "java/lang/String" "java/lang/String" "coder" "B"))⟩) f1 f2 (t₁ := .array .byte) (t₂ := .byte) (by decide +kernel) (by decide +kernel) (by decide)
  have al := X8.warmed.alike.symm.trans X15.warmed.alike
  have n7 : T11.heap[s.heap.size]? = some N := by rw [q11]; exact n1.1
  exact ⟨T15, none, _, _, _, X15, by simp, rfl, by omega, (fun _ => rfl), ⟨rfl, _, N, bl15, ((Same.refl D _).set _ (by simp)).set _ (by simp), sl15, (Cell.slots_setSlot_ne _ ap).trans sl13, n1.keep al (p15.other hne (p13.other hne n7)), n2, by rw [al.findClass]; exact n3, n4, n5, fun y c h1 h2 => p15.other h1 (p13.other h1 (by rw [q11]; exact n6 y c h2)), by rw [p15.2.2, p13.2.2, q11]; exact z8⟩, fun fs hl => c16.trans (X15.returnOut hexec hret (hb hbytes d57) hl)⟩
end New4
namespace New1
def yN : MethodName := ⟨"java/lang/String", "<init>", "([C)V"⟩
abbrev yB : ByteArray := jdk_42_method_3_code
theorem d0 : decode yB 0 = .ok (.aload_n 0, 1) := by decide +kernel
theorem d1 : decode yB 1 = .ok (.aload_n 1, 1) := by decide +kernel
theorem d2 : decode yB 2 = .ok (.iconst 0, 1) := by decide +kernel
theorem d3 : decode yB 3 = .ok (.aload_n 1, 1) := by decide +kernel
theorem d4 : decode yB 4 = .ok (.arraylength, 1) := by decide +kernel
theorem d5 : decode yB 5 = .ok (.aconst_null, 1) := by decide +kernel
theorem d6 : decode yB 6 = .ok (.invokespecial 27, 3) := by decide +kernel
theorem d9 : decode yB 9 = .ok (.return_, 1) := by decide +kernel
def site : List Cond := [New4.tab] ++ initW "java/lang/String" 27 New4.yN
def tab : Cond := tabOf yN yB 2 none site
def P (a : Addr) (D : Cell) (fV fC : Field) (b : Addr) (A : Cell) (z : Int32) (args : Array Value) (s : State) : Prop := args = #[.ref a, .ref b] ∧ Blank "java/lang/String" a D s ∧ Found "java/lang/String" "value" "[B" fV s ∧ Found "java/lang/String" "coder" "B" fC s ∧ Ch b A s ∧ StaticIs s "java/lang/String" "COMPACT_STRINGS" "Z" (.int z) ∧ ¬ z = 0 ∧ 0 < A.slots.size ∧ A.slots.size ≤ 536870912 ∧ ∀ i, i < A.slots.size → ¬ 255 < cv A i
def E (a : Addr) (D : Cell) (fV fC : Field) (A : Cell) (r : Option Value) (s u : State) : Prop := Got a D fV fC A 0 A.slots.size r s u
/-- new String(chars), not empty, no char above 255: a Latin-1 String of their low bytes -/
theorem law (l : Launch) (a : Addr) (D : Cell) (fV fC : Field) (b : Addr) (A : Cell) (z : Int32) : Law l yN 2 1 3 52 yB 2 none site (P a D fV fC b A z) (E a D fV fC A) [⟨a, fC.slot⟩, ⟨a, fV.slot⟩] 1 A.slots.size := by
  refine Law.of_walk (plainFor_of_name (by decide +kernel)) (by decide +kernel) (by decide +kernel) (by decide) (fun _ _ h => by rw [h.1]; rfl) (fun _ U U' hal hh h => ⟨h.1, h.2.1.mv hal hh, h.2.2.1.al hal, h.2.2.2.1.al hal, h.2.2.2.2.1.mv hal hh, h.2.2.2.2.2.1.there hal hh, h.2.2.2.2.2.2⟩) (fun r U U' V V' h1 hal h2 h => Got.mv r U U' V V' h1 hal h2 h) ?_
  intro p e s m args below meth c s₁ X0 hexec hbytes hml hret hlk hnm hown hh0 W hP
  obtain ⟨rfl, hB, f1, f2, hA, s1, hz, l0, l2, hp⟩ := hP
  have c1 : Steps p.tables e below (s₁.setTop (entryFrame m #[.ref a, .ref b] 2)) (s₁.setTop (mkF m 0 #[.val (.ref a), .val (.ref b)] [])) := entry rfl
  have c2 : Steps p.tables e below (s₁.setTop (entryFrame m #[.ref a, .ref b] 2)) (s₁.setTop (mkF m 6 #[.val (.ref a), .val (.ref b)] [.null, .int (Int32.ofNat A.slots.size), .int 0, .ref b, .ref a])) := c1.trans (by
    refine XS.aloadN X0.here hexec rfl (hb hbytes d0) rfl rfl ?_
    refine XS.aloadN X0.here hexec rfl (hb hbytes d1) rfl rfl ?_
    refine iconstV X0.here hexec rfl 0 (hb hbytes d2) (by decide) ?_
    refine XS.aloadN X0.here hexec rfl (hb hbytes d3) rfl rfl ?_
    refine X0.alen hexec (hA.1.mv X0.warmed.alike hh0) rfl rfl (hb hbytes d4) ?_
    refine XS.aconstNull X0.here hexec rfl (hb hbytes d5) ?_
    exact Steps.refl _)
  obtain ⟨v3, T3, X3, E3, g3⟩ := X0.callN hexec (New4.law l a D fV fC b A z 0 A.slots.size) rfl hown (wks W (initW "java/lang/String" 27 New4.yN)) (W New4.tab (by simp only [site, List.mem_cons, List.mem_append, true_or, or_true])) (W := 0) (Nat.le_of_ble_eq_true rfl) (Nat.le_of_ble_eq_true rfl) (Nat.le_refl _) (by show 0 + A.slots.size ≤ A.slots.size; omega) (g := (mkF m 6 #[.val (.ref a), .val (.ref b)] [.null, .int (Int32.ofNat A.slots.size), .int (Int32.ofNat 0), .ref b, .ref a])) rfl (by rw [hml]; rfl) c2 (argsL := [.ref b, .int (Int32.ofNat 0), .int (Int32.ofNat A.slots.size), .null]) (rest := []) rfl rfl (by show 2 * 0 + 0 ≤ _; decide) (hb hbytes d6) (⟨rfl, hB.mv X0.warmed.alike hh0, f1.al X0.warmed.alike, f2.al X0.warmed.alike, hA.mv X0.warmed.alike hh0, s1.there X0.warmed.alike hh0, hz, l0, by omega, l2, fun i hi => by rw [Nat.zero_add]; exact hp i hi⟩)
  have e0 := Got.mv _ s₁ s _ _ hh0.symm (Vm.Alike.refl _) rfl E3
  obtain rfl := e0.1
  have c4 : Steps p.tables e below (s₁.setTop (entryFrame m #[.ref a, .ref b] 2)) (T3.setTop (mkF m 9 #[.val (.ref a), .val (.ref b)] [])) := g3
  exact ⟨T3, none, _, _, _, X3, by simp, rfl, by omega, (fun _ => rfl), e0, fun fs hl => c4.trans (X3.returnOut hexec hret (hb hbytes d9) hl)⟩
theorem pays {l : Launch} {R : Room} {p : Program} {e : Env} {below : List Frame} {s : State} {sargs : Array Value} {len W : Nat} (a : Addr) (D : Cell) (fV fC : Field) (b : Addr) (A : Cell) (z : Int32) (htab : tab.before sargs s = true) (hfr : 4 ≤ R.frames) (hlo : W + 65 ≤ R.locals) :
    Back l R p e below s sargs yN len W (fun A₁ a₁ => A₁.cells + 1 ≤ R.cells ∧ A₁.slots + A.slots.size ≤ R.slots ∧ P a D fV fC b A z a₁ A₁.U) (fun A₁ _ v₁ B₁ => E a D fV fC A v₁ A₁.U B₁.U ∧ B₁.locs = A₁.locs ++ [⟨a, fC.slot⟩, ⟨a, fV.slot⟩] ∧ B₁.cells = A₁.cells + 1 ∧ B₁.slots = A₁.slots + A.slots.size) :=
  (law l a D fV fC b A z).pays htab hfr (by omega)
end New1
/-- the byte, read back as charAt reads it, is the char -/
theorem lo8_mask {x : Int32} (h0 : ¬ x < 0) (h1 : ¬ 255 < x) : lo8 x &&& 255 = x := by
  have t : ∀ k : Fin 256, lo8 (Int32.ofNat k.val) &&& 255 = Int32.ofNat k.val := by decide +kernel
  rw [Int32.lt_iff_toInt_lt] at h0 h1
  have e0 : (0 : Int32).toInt = 0 := rfl
  have e1 : (255 : Int32).toInt = 255 := rfl
  obtain ⟨k, hk⟩ : ∃ k : Nat, x.toInt = k := ⟨x.toInt.toNat, by omega⟩
  have hx : x = Int32.ofNat k := Int32.toInt_inj.mp (by rw [hk, Int32.toInt_ofNat_small (by omega)])
  rw [hx]
  exact t ⟨k, by omega⟩
end StrChars
namespace StrChars.Road
open Jvm Sem ClassFile Op Lib Jvm.Stand Jvm.Free Jvm.Free.XT
open Jvm.Lib.Cold (StaticIs)
abbrev ST : String := "java/lang/String"
/-- every table word that New1's law asks, flat -/
abbrev words : List Jvm.Cond := [.code New1.yN New1.yB 2 none, .initialized ST, .methodLink ST 27 New4.yN, .instanceMethod New4.yN,
  .code New4.yN New4.yB 6 none, .fieldLink ST 38 ST "COMPACT_STRINGS" "Z", .laysFinal ST ST "value" "[B", .fieldLink ST 9 ST "value" "[B", .laysFinal ST ST "coder" "B", .fieldLink ST 15 ST "coder" "B",
  .methodLink ST 1 Lib.objectInit, .instanceMethod Lib.objectInit, .code Lib.objectInit ⟨#[0xb1]⟩ 1 none, .methodLink ST 177 Cmp3.yN, .static Cmp3.yN, .methodLink ST 47 CodL.yN, .static CodL.yN,
  .code Cmp3.yN Cmp3.yB 6 (some (.array .byte)), .initialized U16, .arrayClass .byte, .methodLink U16 115 Cmp5.yN, .static Cmp5.yN, .code Cmp5.yN Cmp5.yB 7 (some .int), .code CodL.yN CodL.yB 2 (some .byte)]
theorem tab_of {a : Array Value} {s : State} (h : ∀ w ∈ words, w.before a s = true) : New1.tab.before a s = true := by
  have h5 : Cmp5.tab.before a s = true := unparts (wk h (.code Cmp5.yN Cmp5.yB 7 (some .int))) (wks h (.initialized Cmp5.yN.cls :: Cmp5.site))
  have hc : CodL.tab.before a s = true := unparts (wk h (.code CodL.yN CodL.yB 2 (some .byte))) (wks h (.initialized CodL.yN.cls :: CodL.site))
  have q5 : ∀ w ∈ Cmp5.tab :: words, w.before a s = true := fun w hw => (List.mem_cons.mp hw).elim (fun e => e ▸ h5) (h w)
  have h3 : Cmp3.tab.before a s = true := unparts (wk q5 (.code Cmp3.yN Cmp3.yB 6 (some (.array .byte)))) (wks q5 (.initialized Cmp3.yN.cls :: Cmp3.site))
  have q3 : ∀ w ∈ Cmp3.tab :: CodL.tab :: words, w.before a s = true := fun w hw => (List.mem_cons.mp hw).elim (fun e => e ▸ h3) fun hw => (List.mem_cons.mp hw).elim (fun e => e ▸ hc) (h w)
  have h4 : New4.tab.before a s = true := unparts (wk q3 (.code New4.yN New4.yB 6 none)) (wks q3 (.initialized New4.yN.cls :: New4.site))
  have q4 : ∀ w ∈ New4.tab :: words, w.before a s = true := fun w hw => (List.mem_cons.mp hw).elim (fun e => e ▸ h4) (h w)
  exact unparts (wk q4 (.code New1.yN New1.yB 2 none)) (wks q4 (.initialized New1.yN.cls :: New1.site))
/-- the words ride from the start Z to the walk's own state -/
theorem moved {Z s : State} {a0 args : Array Value} (hZ : Z.Warmed39 s.vm) (hw : ∀ d ∈ words, d.before a0 Z = true) : ∀ d ∈ words, d.before args s = true := fun d hd => by
  have q := hw d hd
  have t : ∀ d ∈ words, d = .arrayClass .byte ∨ (d.onTables && d.keepsFace) = true := by decide +kernel
  rcases t d hd with rfl | t
  · exact RoadKit.mvA hZ q
  · exact RoadKit.mv hZ q t
/-- WHAT COMES BACK, over the tables of the start Z: h the heap at the call, h' behind it -/
def Q (Z : State) (x : Addr) (A : Cell) (h : Heap) (v : Option Value) (h' : Heap) (L : List Loc) : Prop := v = none ∧ (∀ y ∈ L, y.base = x) ∧ RoadKit.Keep h h' [x] ∧ h'.size = h.size + 1 ∧ RoadKit.Exa Z h' x ST ∧ RoadKit.Fld Z h' x ST "value" "[B" (.ref h.size) ∧ RoadKit.Fld Z h' x ST "coder" "B" (.int 0) ∧
  (∃ V : Cell, RoadKit.Arr Z h' h.size V .byte ∧ V.vm = .none ∧ Z.vm.findClass "[B" = some V.cls ∧ V.slots.size = A.slots.size ∧ ∀ j, j < A.slots.size → V.slots[j]? = some (.int (lo8 (cv A j)))) ∧
  ∀ (O n d : String) (w : Value), RoadKit.Fld Z h x O n d w → RoadKit.slotOf Z O n d ≠ RoadKit.slotOf Z ST "value" "[B" → RoadKit.slotOf Z O n d ≠ RoadKit.slotOf Z ST "coder" "B" → RoadKit.Fld Z h' x O n d w
/-- **new String(chars) AT A CALL, IN THE ROAD'S FORM**: for specialBack behind newO: x the fresh String, b the char[] with the cell A -/
theorem back {p : Program} {l : Launch} {e : Env} {R : Room} {s : State} {args : Array Value} {below : List Frame} {len W : Nat} {Z : State} {a0 : Array Value} {h : Heap} (hZ : Z.Warmed39 s.vm) (hw : ∀ d ∈ words, d.before a0 Z = true) {kI : Nat} (wi : (Jvm.Cond.instantiable ST kI).before a0 Z = true)
    {x b : Addr} {A : Cell} {z : Int32} {v0 c0 : Value} (E : RoadKit.Exa Z h x ST) (V : RoadKit.Fld Z h x ST "value" "[B" v0) (C : RoadKit.Fld Z h x ST "coder" "B" c0) (K : RoadKit.Arr Z h b A .char) (hty : Typed .char A) (S : RoadKit.Sta Z h ST "COMPACT_STRINGS" "Z" (.int z)) (hz : ¬ z = 0)
    (l0 : 0 < A.slots.size) (l2 : A.slots.size ≤ 536870912) (hp : ∀ i, i < A.slots.size → ¬ 255 < cv A i) (hfr : 4 ≤ R.frames) (hlo : W + 65 ≤ R.locals) :
    Back l R p e below s args New1.yN len W (fun P a => a = #[.ref x, .ref b] ∧ P.U.heap = h ∧ P.cells + 1 ≤ R.cells ∧ P.slots + A.slots.size ≤ R.slots)
      (fun P _ v B => ∃ L, Q Z x A h v B.U.heap L ∧ B.locs = P.locs ++ L ∧ B.cells = P.cells + 1 ∧ B.slots = P.slots + A.slots.size) := by
  intro m meth c P g ig mk a X hg hsize hdg hW hn hp'
  obtain ⟨rfl, rfl, r1, r2⟩ := hp'
  have al : Z.vm.Alike P.U.vm := hZ.alike.trans X.warmed.alike
  obtain ⟨D, cfV, kV, iV, fV, hD, gV, stV, knV, obV, asV, slV⟩ := id V
  obtain ⟨D', cfC, kC, iC, fC, hD', gC, stC, -, -, asC, slC⟩ := id C
  cases hD.symm.trans hD'
  obtain ⟨D2, kD, e1, e2, e3, e4, e5⟩ := id E
  cases hD.symm.trans e1
  obtain ⟨c2, k2, i1, i2, i3, -⟩ := Cond.instantiable_spec wi
  cases e2.symm.trans i1
  cases e3.symm.trans i2
  obtain ⟨kU, u1, u2⟩ := al.2.2 _ _ e3
  have hB : Blank ST x D P.U := ⟨hD, ⟨knV, fun q hq => by rw [hq] at obV; cases obV⟩, by rw [al.findClass]; exact e2, kU, u1, by rw [u2]; exact i3, by rw [u2]; exact e5 i3⟩
  have F1 : Found ST "value" "[B" fV P.U := ⟨SBG.found_only al ⟨cfV, kV, iV, gV⟩, stV⟩
  have F2 : Found ST "coder" "B" fC P.U := ⟨SBG.found_only al ⟨cfC, kC, iC, gC⟩, stC⟩
  have hA : Ch b A P.U := ⟨⟨K.1, State.isArrayOf_alike al K.2.1, K.2.2, by omega⟩, hty⟩
  have hS : StaticIs P.U ST "COMPACT_STRINGS" "Z" (.int z) := by
    obtain ⟨cfS, iS, kS, fS, st, cS, t1, t2, t3, t4, t5, t6, t7⟩ := S
    exact StaticIs.there (s := { Z with heap := P.U.heap }) ⟨cfS, iS, kS, fS, st, cS, t1, t2, t3, t4, t5, (fun q => by rw [q] at t6; cases t6), t7⟩ al rfl
  obtain ⟨v, B, X', ⟨⟨hv, E', V', q1, q2, q3, q4, q5, q6, q7, q8, q9, q10, q11⟩, hl, hc, hs⟩, st⟩ := New1.pays x D fV fC b A z (tab_of (moved hZ hw)) hfr hlo m meth c P g ig mk _ X hg hsize hdg hW hn ⟨r1, r2, rfl, hB, F1, F2, hA, hS, hz, l0, l2, hp⟩
  have al' : Z.vm.Alike B.U.vm := hZ.alike.trans X'.warmed.alike
  have hsz : E'.slots.size = D.slots.size := by
    obtain ⟨-, -, -, kB, w1, w2, w3⟩ := q1
    obtain ⟨kB', y1, y2⟩ := al'.2.2 _ _ e3
    rw [q2.2.1] at w1
    cases w1.symm.trans y1
    rw [w3, e5 i3, y2]
  refine ⟨v, B, X', ⟨_, ⟨hv, ?_, ⟨by omega, fun y cy hy hn' => q10 y cy (by simpa using hn') hy, fun y cy hy => ?_⟩, q11, ⟨E', _, q1.1, by rw [q2.2.1]; exact e2, by rw [q2.2.1]; exact e3, by rw [q2.1]; exact obV, fun _ => by rw [hsz]; exact e5 i3⟩,
    ⟨E', cfV, kV, iV, fV, q1.1, gV, stV, by rw [q2.1]; exact knV, by rw [q2.1]; exact obV, by rw [q2.2.1]; exact asV, q3⟩, ⟨E', cfC, kC, iC, fC, q1.1, gC, stC, by rw [q2.1]; exact knV, by rw [q2.1]; exact obV, by rw [q2.2.1]; exact asC, q4⟩,
    ⟨V', ⟨q5.1, State.isArrayOf_alike al'.symm q5.2.1, q5.2.2.1⟩, q6, by rw [← al'.findClass]; exact q7, q8, fun j hj => by have := q9 j hj; rwa [Nat.zero_add] at this⟩, fun O n d w F n1 n2 => ?_⟩, hl, hc, hs⟩, st⟩
  · intro y hy
    simp only [List.mem_cons, List.not_mem_nil, or_false] at hy
    rcases hy with rfl | rfl <;> rfl
  · by_cases q : y = x
    · subst q
      cases hD.symm.trans hy
      exact ⟨E', q1.1, q2.2.1, q2.1, hsz⟩
    · exact ⟨cy, q10 y cy q hy, rfl, rfl, rfl⟩
  · obtain ⟨D3, cf, k, i, f, g1, g2, g3, g4, g5, g6, g7⟩ := F
    cases hD.symm.trans g1
    simp only [RoadKit.slotOf, g2, gV, gC, Option.map_some, Option.getD_some] at n1 n2
    exact ⟨E', cf, k, i, f, q1.1, g2, g3, by rw [q2.1]; exact g4, by rw [q2.1]; exact g5, by rw [q2.2.1]; exact g6, by rw [q2.2.2 f.slot (by simp [n1, n2])]; exact g7⟩
end StrChars.Road
namespace StrChars.Road
open Jvm Sem ClassFile Op Lib Jvm.Stand Jvm.Free Jvm.Free.XT
/-- WHAT COMES BACK, the byte[] as a list of values -/
def QA (Z : State) (x : Addr) (zn : Int32) (cs : List Int32) (h : Heap) (v : Option Value) (h' : Heap) (L : List Loc) : Prop := v = none ∧ (∀ y ∈ L, y.base = x) ∧ RoadKit.Keep h h' [x] ∧ h'.size = h.size + 1 ∧ RoadKit.Exa Z h' x ST ∧ RoadKit.Fld Z h' x ST "value" "[B" (.ref h.size) ∧ RoadKit.Fld Z h' x ST "coder" "B" (.int 0) ∧
  (∃ kb, Z.vm.findClass "[B" = some kb ∧ RoadKit.Arv Z h' h.size kb .byte zn (cs.map fun c => .int (lo8 c)) (.int 0)) ∧
  ∀ (O n d : String) (w : Value), RoadKit.Fld Z h x O n d w → RoadKit.slotOf Z O n d ≠ RoadKit.slotOf Z ST "value" "[B" → RoadKit.slotOf Z O n d ≠ RoadKit.slotOf Z ST "coder" "B" → RoadKit.Fld Z h' x O n d w
/-- **new String(chars) AT A CALL, THE ARRAYS AS LISTS**: the char[] at b holds cs, not empty, no char above 255 -/
theorem backArv {p : Program} {l : Launch} {e : Env} {R : Room} {s : State} {args : Array Value} {below : List Frame} {len W : Nat} {Z : State} {a0 : Array Value} {h : Heap} (hZ : Z.Warmed39 s.vm) (hw : ∀ d ∈ words, d.before a0 Z = true) {kI : Nat} (wi : (Jvm.Cond.instantiable ST kI).before a0 Z = true)
    {x b : Addr} {k : ClassId} {zn z : Int32} {cs : List Int32} {dv v0 c0 : Value} (E : RoadKit.Exa Z h x ST) (V : RoadKit.Fld Z h x ST "value" "[B" v0) (C : RoadKit.Fld Z h x ST "coder" "B" c0) (K : RoadKit.Arv Z h b k .char zn (cs.map Value.int) dv) (S : RoadKit.Sta Z h ST "COMPACT_STRINGS" "Z" (.int z)) (hz : ¬ z = 0)
    (hlen : zn.toNatClampNeg = cs.length) (h0 : 0 < cs.length) (hbig : cs.length ≤ 536870912) (hall : ∀ c ∈ cs, ¬ 255 < c) (hfr : 4 ≤ R.frames) (hlo : W + 65 ≤ R.locals) :
    Back l R p e below s args New1.yN len W (fun P a => a = #[.ref x, .ref b] ∧ P.U.heap = h ∧ P.cells + 1 ≤ R.cells ∧ P.slots + cs.length ≤ R.slots)
      (fun P _ v B => ∃ L, QA Z x zn cs h v B.U.heap L ∧ B.locs = P.locs ++ L ∧ B.cells = P.cells + 1 ∧ B.slots = P.slots + cs.length) := by
  obtain ⟨A, K1, K2, K3, K4, K5, K6⟩ := K
  have e : A.slots.size = cs.length := K3.trans hlen
  have hat : ∀ (i : Nat) (hi : i < cs.length), A.slots[i]? = some (.int cs[i]) := fun i hi => by rw [K5 i (by omega)]; simp [List.getD_eq_getElem?_getD, hi]
  have hcv : ∀ (i : Nat) (hi : i < cs.length), cv A i = cs[i] := fun i hi => by unfold cv; rw [hat i hi]
  have hty : Typed .char A := fun i v hv => by
    have hi : i < A.slots.size := (Array.getElem?_eq_some_iff.mp hv).1
    have q := K5 i hi
    rw [hv] at q
    rw [Option.some.inj q]
    exact K6 i hi
  refine Back.mono (back hZ hw wi E V C K1 hty S hz (by omega) (by omega) (fun i hi => by rw [hcv i (by omega)]; exact hall _ (List.getElem_mem _)) hfr hlo) (fun P a hp => ⟨hp.1, hp.2.1, hp.2.2.1, by rw [e]; exact hp.2.2.2⟩) (fun P a v B hp hq => ?_)
  obtain ⟨L, ⟨q1, q2, q3, q4, q5, q6, q7, ⟨V', v1, v2, v3, v4, v5⟩, q9⟩, hl, hc, hs⟩ := hq
  refine ⟨L, ⟨q1, q2, q3, q4, q5, q6, q7, ⟨V'.cls, v3, V', v1, rfl, by rw [v4, e, hlen], K4, fun i hi => ?_, fun i hi => ?_⟩, q9⟩, hl, hc, by rw [hs, e]⟩
  · have hi' : i < cs.length := by omega
    rw [v5 i (by omega), hcv i hi']; simp [List.getD_eq_getElem?_getD, hi']
  · have hi' : i < cs.length := by omega
    simp only [List.getD_eq_getElem?_getD, List.getElem?_map, List.getElem?_eq_getElem hi', Option.map_some, Option.getD_some]
    exact fits_lo8 _
end StrChars.Road
namespace StrChars.Road
open Jvm Sem ClassFile Op Lib Jvm.Stand Jvm.Free Jvm.Free.XT
/-- WHAT COMES BACK, in the writer's own shape -/
def QV (Z : State) (x : Addr) (N : Int32) (bs : List Int32) (h : Heap) (n0 : Nat) (v : Option Value) (h' : Heap) (L : List Loc) : Prop := v = none ∧ RoadKit.Fr n0 L ∧ RoadKit.Keep h h' [x] ∧ RoadKit.Exa Z h' x ST ∧ RoadKit.Fld Z h' x ST "coder" "B" (.int 0) ∧
  ∃ (t : Addr) (kb : ClassId), n0 ≤ t ∧ h.size ≤ t ∧ ¬ t = x ∧ RoadKit.Fld Z h' x ST "value" "[B" (.ref t) ∧ RoadKit.Arv Z h' t kb .byte N (bs.map Value.int) (.int 0)
/-- **new String(chars) AT A CALL, FOR THE WRITER**: a char[] of n known ints, each 0 to 255 -/
theorem backV {p : Program} {l : Launch} {e : Env} {R : Room} {s : State} {args : Array Value} {below : List Frame} {len W : Nat} {Z : State} {a0 : Array Value} {h : Heap} (hZ : Z.Warmed39 s.vm) (hw : ∀ d ∈ words, d.before a0 Z = true) {kI : Nat} (wi : (Jvm.Cond.instantiable ST kI).before a0 Z = true)
    {x b : Addr} {kC : ClassId} {cs bs : List Int32} {d v0 c0 : Value} {z N : Int32} {n n0 : Nat} (hx0 : n0 ≤ x) (hh0 : n0 ≤ h.size) (E : RoadKit.Exa Z h x ST) (V : RoadKit.Fld Z h x ST "value" "[B" v0) (C : RoadKit.Fld Z h x ST "coder" "B" c0) (K : RoadKit.Arv Z h b kC .char N (cs.map Value.int) d) (S : RoadKit.Sta Z h ST "COMPACT_STRINGS" "Z" (.int z)) (hz : ¬ z = 0)
    (hn : cs.length = n) (hN : N = Int32.ofNat n) (l0 : 0 < n) (l2 : n ≤ 4000) (hp : ∀ c ∈ cs, ¬ c < 0 ∧ ¬ (255 : Int32) < c) (hb : bs = cs.map (fun c => c.toInt8.toInt32)) (hfr : 4 ≤ R.frames) (hlo : W + 65 ≤ R.locals) :
    Back l R p e below s args (⟨"java/lang/String", "<init>", "([C)V"⟩ : MethodName) len W (fun P a => a = #[.ref x, .ref b] ∧ P.U.heap = h ∧ P.cells + 1 ≤ R.cells ∧ P.slots + n ≤ R.slots)
      (fun P _ v B => ∃ L, QV Z x N bs h n0 v B.U.heap L ∧ B.locs = P.locs ++ L ∧ B.cells = P.cells + 1 ∧ B.slots = P.slots + n) := by
  subst hn hN hb
  refine Back.mono (backArv hZ hw wi E V C K S hz (n32 (by omega)) l0 (by omega) (fun c hc => (hp c hc).2) hfr hlo) (fun P a hp => hp) (fun P a v B hp hq => ?_)
  obtain ⟨L, ⟨q1, q2, q3, q4, q5, q6, q7, ⟨kb, v1, v2⟩, q9⟩, hl, hc, hs⟩ := hq
  exact ⟨L, ⟨q1, fun y hy => by rw [q2 y hy]; exact hx0, q3, q5, q7, h.size, kb, hh0, Nat.le_refl _, Nat.ne_of_gt E.lt, q6, by rw [List.map_map]; exact v2⟩, hl, hc, hs⟩
end StrChars.Road
namespace StrChars
open Jvm Sem ClassFile Op Lib Jvm.Stand Jvm.Free.XT Jvm.Free.ALB Jvm.Free.JM Jvm.Free
open Jvm.Lib.Cold (StaticIs)
def hi8 (x : Int32) : Int32 := lo8 (x >>> ((8 : Int32) &&& 31))
/-- what StringUTF16.getChar makes of two bytes -/
def pairCh (u v : Int32) : Int32 := (((u &&& 255) <<< ((0 : Int32) &&& 31)) ||| ((v &&& 255) <<< ((8 : Int32) &&& 31))).toUInt32.toUInt16.toUInt32.toInt32
theorem lo8_and (x : Int32) : (lo8 x &&& 255).toBitVec.toNat = x.toBitVec.toNat % 256 := by
  have h : (lo8 x).toBitVec = (x.toBitVec.signExtend 8).signExtend 32 := by rw [lo8, Int8.toBitVec_toInt32, Int32.toBitVec_toInt8]
  rw [Int32.toBitVec_and, BitVec.toNat_and, h]
  have e : ((x.toBitVec.signExtend 8).signExtend 32).toNat % 256 = x.toBitVec.toNat % 256 := by
    rw [BitVec.toNat_signExtend]
    have hlt := x.toBitVec.isLt
    simp only [BitVec.toNat_setWidth, BitVec.toNat_signExtend]
    split <;> split <;> omega
  rw [← e]
  exact Nat.and_two_pow_sub_one_eq_mod _ 8
theorem pair_says {c : Int32} (h0 : ¬ c < 0) (h1 : ¬ 65535 < c) : pairCh (lo8 c) (hi8 c) = c := by
  rw [Int32.lt_iff_toInt_lt] at h0 h1
  have e0 : (0 : Int32).toInt = 0 := rfl
  have e1 : (65535 : Int32).toInt = 65535 := rfl
  have hc : c.toInt = c.toBitVec.toNat := by
    have := c.toBitVec.isLt
    have e : c.toInt = c.toBitVec.toInt := rfl
    rw [e] at h0 h1
    rw [e]
    rw [BitVec.toInt_eq_toNat_cond] at h0 h1 ⊢
    split at h0 <;> split <;> omega
  have hn : c.toBitVec.toNat < 65536 := by omega
  have a1 := lo8_and c
  have a2 : (hi8 c &&& 255).toBitVec.toNat = c.toBitVec.toNat / 256 := by
    rw [hi8, lo8_and]
    have e : ((8 : Int32) &&& 31) = 8 := by decide
    rw [e, Int32.toBitVec_shiftRight]
    have e2 : ((8 : Int32).toBitVec.smod 32) = 8#32 := by decide
    rw [e2, BitVec.sshiftRight_eq', BitVec.toNat_sshiftRight_of_msb_false (by rw [BitVec.msb_eq_false_iff_two_mul_lt]; omega)]
    show c.toBitVec.toNat >>> 8 % 256 = _
    rw [Nat.shiftRight_eq_div_pow]
    omega
  unfold pairCh
  apply Int32.toBitVec_inj.mp
  apply BitVec.eq_of_toNat_eq
  have f0 : ((0 : Int32) &&& 31) = 0 := by decide
  have f8 : ((8 : Int32) &&& 31) = 8 := by decide
  rw [f0, f8]
  have g : (((lo8 c &&& 255) <<< (0 : Int32)) ||| ((hi8 c &&& 255) <<< (8 : Int32))).toBitVec.toNat = c.toBitVec.toNat := by
    rw [Int32.toBitVec_or, Int32.toBitVec_shiftLeft, Int32.toBitVec_shiftLeft]
    have s0 : ((0 : Int32).toBitVec.smod 32) = 0#32 := by decide
    have s8 : ((8 : Int32).toBitVec.smod 32) = 8#32 := by decide
    rw [s0, s8, BitVec.toNat_or]
    simp only [BitVec.shiftLeft_eq', BitVec.toNat_shiftLeft, a1, a2]
    show (c.toBitVec.toNat % 256) <<< 0 % 2 ^ 32 ||| (c.toBitVec.toNat / 256) <<< 8 % 2 ^ 32 = _
    rw [Nat.shiftLeft_zero, Nat.mod_eq_of_lt (show c.toBitVec.toNat % 256 < 2 ^ 32 by omega), Nat.mod_eq_of_lt (show (c.toBitVec.toNat / 256) <<< 8 < 2 ^ 32 by rw [Nat.shiftLeft_eq]; omega), Nat.or_comm, ← Nat.shiftLeft_add_eq_or_of_lt (by omega), Nat.shiftLeft_eq]
    omega
  show BitVec.toNat (((((lo8 c &&& 255) <<< (0 : Int32)) ||| ((hi8 c &&& 255) <<< (8 : Int32))).toBitVec.setWidth 16).setWidth 32) = _
  rw [BitVec.toNat_setWidth, BitVec.toNat_setWidth, g]
  omega
end StrChars
namespace StrChars
open Jvm Sem ClassFile Op Lib Jvm.Stand Jvm.Free.XT Jvm.Free.ALB Jvm.Free.JM Jvm.Free
open Jvm.Lib.Cold (StaticIs)
/-- charAt's cast of a byte read back -/
def chr8 (u : Int32) : Int32 := (u &&& 255).toUInt32.toUInt16.toUInt32.toInt32
theorem chr8_lo8 {c : Int32} (h0 : ¬ c < 0) (h1 : ¬ 255 < c) : chr8 (lo8 c) = c := by
  have t : ∀ k : Fin 256, (Int32.ofNat k.val).toUInt32.toUInt16.toUInt32.toInt32 = Int32.ofNat k.val := by decide +kernel
  unfold chr8
  rw [lo8_mask h0 h1]
  rw [Int32.lt_iff_toInt_lt] at h0 h1
  have e0 : (0 : Int32).toInt = 0 := rfl
  have e1 : (255 : Int32).toInt = 255 := rfl
  obtain ⟨k, hk⟩ : ∃ k : Nat, c.toInt = k := ⟨c.toInt.toNat, by omega⟩
  have hx : c = Int32.ofNat k := Int32.toInt_inj.mp (by rw [hk, Int32.toInt_ofNat_small (by omega)])
  rw [hx]
  exact t ⟨k, by omega⟩
theorem narrow_ch {c : Int32} (h0 : ¬ c < 0) (h1 : ¬ 65535 < c) : narrow .char (.int c) = .int c := by
  have q : narrow .char (.int (pairCh (lo8 c) (hi8 c))) = .int (pairCh (lo8 c) (hi8 c)) := narrow_c _
  rwa [pair_says h0 h1] at q
/-- the array's cell V codes the n chars f 0 .. f (n - 1) by the coder cd, as the JDK does: coder 1 just where some char is above 255 -/
def Cod (cd : Int32) (n : Nat) (f : Nat → Int32) (V : Cell) : Prop := (cd = 0 ∧ V.slots.size = n ∧ ∀ j, j < n → V.slots[j]? = some (.int (lo8 (f j))) ∧ ¬ 255 < f j) ∨ (cd = 1 ∧ V.slots.size = 2 * n ∧ (∀ j, j < n → V.slots[2 * j]? = some (.int (lo8 (f j))) ∧ V.slots[2 * j + 1]? = some (.int (hi8 (f j)))) ∧ ∃ j, j < n ∧ 255 < f j)
theorem Cod.cd {cd : Int32} {n : Nat} {f : Nat → Int32} {V : Cell} (h : Cod cd n f V) : cd = 0 ∨ cd = 1 := h.imp (fun q => q.1) fun q => q.1
/-- **x is a String of the n chars f 0 .. f (n - 1)**, Latin-1 or UTF-16; its array at t has the cell V -/
def Txt (x t : Addr) (V : Cell) (cd : Int32) (n : Nat) (f : Nat → Int32) (U : State) : Prop := Exact "java/lang/String" x U ∧ Has x "java/lang/String" "value" "[B" (.ref t) U ∧ Has x "java/lang/String" "coder" "B" (.int cd) U ∧ XT.Arr .byte t V U ∧ Cod cd n f V ∧ ∀ j, j < n → ¬ f j < 0 ∧ ¬ 65535 < f j
theorem Txt.mv {x t : Addr} {V : Cell} {cd : Int32} {n : Nat} {f : Nat → Int32} {U U' : State} (h : Txt x t V cd n f U) (hal : U.vm.Alike U'.vm) (hh : U'.heap = U.heap) : Txt x t V cd n f U' := ⟨h.1.mv hal hh, h.2.1.mv hal hh, h.2.2.1.mv hal hh, h.2.2.2.1.mv hal hh, h.2.2.2.2⟩
namespace IsL
def yN : MethodName := ⟨"java/lang/String", "isLatin1", "()Z"⟩
abbrev yB : ByteArray := jdk_42_method_154_code
theorem d0 : decode yB 0 = .ok (.getstatic 38, 3) := by decide +kernel
theorem d3 : decode yB 3 = .ok (.ifCond (.eq) 14, 3) := by decide +kernel
theorem d6 : decode yB 6 = .ok (.aload_n 0, 1) := by decide +kernel
theorem d7 : decode yB 7 = .ok (.getfield 15, 3) := by decide +kernel
theorem d10 : decode yB 10 = .ok (.ifCond (.ne) 7, 3) := by decide +kernel
theorem d13 : decode yB 13 = .ok (.iconst 1, 1) := by decide +kernel
theorem d14 : decode yB 14 = .ok (.goto 4, 3) := by decide +kernel
theorem d17 : decode yB 17 = .ok (.iconst 0, 1) := by decide +kernel
theorem d18 : decode yB 18 = .ok (.ireturn, 1) := by decide +kernel
def site : List Cond := [.fieldLink "java/lang/String" 38 "java/lang/String" "COMPACT_STRINGS" "Z", .fieldLink "java/lang/String" 15 "java/lang/String" "coder" "B"]
def tab : Cond := tabOf yN yB 1 (some .boolean) site
def P (x : Addr) (cd z : Int32) (args : Array Value) (s : State) : Prop := args = #[.ref x] ∧ Has x "java/lang/String" "coder" "B" (.int cd) s ∧ (cd = 0 ∨ cd = 1) ∧ StaticIs s "java/lang/String" "COMPACT_STRINGS" "Z" (.int z) ∧ ¬ z = 0
def E (cd : Int32) (r : Option Value) (s u : State) : Prop := XT.PureE (some (.int (1 - cd))) r s u
theorem law (l : Launch) (x : Addr) (cd z : Int32) : Law l yN 1 0 0 0 yB 1 (some .boolean) site (P x cd z) (E cd) [] 0 0 := by
  refine Law.of_walk (plainFor_of_name (by decide +kernel)) (by decide +kernel) (by decide +kernel) (by decide) (fun _ _ h => by rw [h.1]; rfl) (fun _ U U' hal hh h => ⟨h.1, h.2.1.mv hal hh, h.2.2.1, h.2.2.2.1.there hal hh, h.2.2.2.2⟩) (fun r U U' V V' h1 hal h2 h => XT.PureE.mv r U U' V V' h1 hal h2 h) ?_
  intro p e s m args below meth c s₁ X0 hexec hbytes hml hret hlk hnm hown hh0 W hP
  obtain ⟨rfl, hx, hc, s1, hz⟩ := hP
  have c1 : Steps p.tables e below (s₁.setTop (entryFrame m #[.ref x] 1)) (s₁.setTop (mkF m 0 #[.val (.ref x)] [])) := entry rfl
  obtain ⟨T2, X2, q2, st2⟩ := X0.sget hexec hown (wk W (.fieldLink "java/lang/String" 38 "java/lang/String" "COMPACT_STRINGS" "Z")) s1 (fun _ _ h => by rw [hh0]; exact h) (g := (mkF m 0 #[.val (.ref x)] [])) rfl (hb hbytes d0)
  have hh2 := q2.trans hh0
  have c3 : Steps p.tables e below (s₁.setTop (entryFrame m #[.ref x] 1)) (T2.setTop (mkF m 7 #[.val (.ref x)] [.ref x])) := (c1.trans (st2 _ (Steps.refl _))).trans (by
    refine XS.ifNo X2.here hexec rfl (hb hbytes d3) rfl (i0_eq_f hz) ?_
    refine XS.aloadN X2.here hexec rfl (hb hbytes d6) rfl rfl ?_
    exact Steps.refl _)
  obtain ⟨T4, X4, q4, st4⟩ := X2.hget hexec hown (wk W (.fieldLink "java/lang/String" 15 "java/lang/String" "coder" "B")) (hx.mv X2.warmed.alike hh2) (g := (mkF m 7 #[.val (.ref x)] [.ref x])) rfl (rest := []) rfl (hb hbytes d7)
  have c5 : Steps p.tables e below (s₁.setTop (entryFrame m #[.ref x] 1)) (T4.setTop (mkF m 10 #[.val (.ref x)] [.int cd])) := c3.trans (st4 _ (Steps.refl _))
  have c6 : Steps p.tables e below (s₁.setTop (entryFrame m #[.ref x] 1)) (T4.setTop (mkF m 18 #[.val (.ref x)] [.int (1 - cd)])) := by
    rcases hc with rfl | rfl
    · exact c5.trans (by
        refine XS.ifNo X4.here hexec rfl (hb hbytes d10) rfl (i0_ne_f rfl) ?_
        refine iconstV X4.here hexec rfl 1 (hb hbytes d13) (by decide) ?_
        refine XS.goto X4.here hexec rfl (pc0 := 14) rfl (hb hbytes d14) (by decide) rfl ?_
        exact Steps.refl _)
    · exact c5.trans (by
        refine XS.ifYes X4.here hexec rfl (pc0 := 10) rfl (hb hbytes d10) rfl (i0_ne_t (by decide)) (by decide) rfl ?_
        refine iconstV X4.here hexec rfl 0 (hb hbytes d17) (by decide) ?_
        exact Steps.refl _)
  exact ⟨T4, some (.int (1 - cd)), _, _, _, X4, rfl, rfl, rfl, (fun h => by cases h), ⟨rfl, q4.trans hh2⟩, fun fs hl => c6.trans (X4.ireturnOut hexec hret (by rcases hc with rfl | rfl <;> rfl) (Or.inr (Or.inl rfl)) (hb hbytes d18) hl)⟩
end IsL
namespace LChA
def yN : MethodName := ⟨"java/lang/StringLatin1", "charAt", "([BI)C"⟩
abbrev yB : ByteArray := jdk_43_method_2_code
theorem d0 : decode yB 0 = .ok (.iload_n 1, 1) := by decide +kernel
theorem d1 : decode yB 1 = .ok (.aload_n 0, 1) := by decide +kernel
theorem d2 : decode yB 2 = .ok (.arraylength, 1) := by decide +kernel
theorem d3 : decode yB 3 = .ok (.invokestatic 9, 3) := by decide +kernel
theorem d6 : decode yB 6 = .ok (.aload_n 0, 1) := by decide +kernel
theorem d7 : decode yB 7 = .ok (.iload_n 1, 1) := by decide +kernel
theorem d8 : decode yB 8 = .ok (.baload, 1) := by decide +kernel
theorem d9 : decode yB 9 = .ok (.sipush 255, 3) := by decide +kernel
theorem d12 : decode yB 12 = .ok (.iand, 1) := by decide +kernel
theorem d13 : decode yB 13 = .ok (.i2c, 1) := by decide +kernel
theorem d14 : decode yB 14 = .ok (.ireturn, 1) := by decide +kernel
def site : List Cond := [JO.Str_checkIndex.tab] ++ staticW "java/lang/StringLatin1" 9 JO.Str_checkIndex.yN
def tab : Cond := tabOf yN yB 2 (some .char) site
def P (t : Addr) (V : Cell) (i : Nat) (u : Int32) (fm : Value) (args : Array Value) (s : State) : Prop := args = #[.ref t, .int (Int32.ofNat i)] ∧ XT.Arr .byte t V s ∧ V.slots[i]? = some (.int u) ∧ (StaticIs s "jdk/internal/util/Preconditions" "SIOOBE_FORMATTER" "Ljava/util/function/BiFunction;" fm ∧ fm.isRef = true)
def E (u : Int32) (r : Option Value) (s w : State) : Prop := XT.PureE (some (.int (chr8 u))) r s w
theorem law (l : Launch) (t : Addr) (V : Cell) (i : Nat) (u : Int32) (fm : Value) : Law l yN 2 2 2 27 yB 2 (some .char) site (P t V i u fm) (E u) [] 0 0 := by
  refine Law.of_walk (plainFor_of_name (by decide +kernel)) (by decide +kernel) (by decide +kernel) (by decide) (fun _ _ h => by rw [h.1]; rfl) (fun _ U U' hal hh h => ⟨h.1, h.2.1.mv hal hh, h.2.2.1, h.2.2.2.1.there hal hh, h.2.2.2.2⟩) (fun r U U' V V' h1 hal h2 h => XT.PureE.mv r U U' V V' h1 hal h2 h) ?_
  intro p e s m args below meth c s₁ X0 hexec hbytes hml hret hlk hnm hown hh0 W hP
  obtain ⟨rfl, hV, hu, s1, rf⟩ := hP
  have v31 := hV.2.2.2
  have hi : i < V.slots.size := (Array.getElem?_eq_some_iff.mp hu).1
  have c1 : Steps p.tables e below (s₁.setTop (entryFrame m #[.ref t, .int (Int32.ofNat i)] 2)) (s₁.setTop (mkF m 0 #[.val (.ref t), .val (.int (Int32.ofNat i))] [])) := entry rfl
  have c2 : Steps p.tables e below (s₁.setTop (entryFrame m #[.ref t, .int (Int32.ofNat i)] 2)) (s₁.setTop (mkF m 3 #[.val (.ref t), .val (.int (Int32.ofNat i))] [.int (Int32.ofNat V.slots.size), .int (Int32.ofNat i)])) := c1.trans (by
    refine XS.iloadN X0.here hexec rfl (hb hbytes d0) rfl ?_
    refine XS.aloadN X0.here hexec rfl (hb hbytes d1) rfl rfl ?_
    refine X0.alen hexec (hV.mv X0.warmed.alike hh0) rfl rfl (hb hbytes d2) ?_
    exact Steps.refl _)
  obtain ⟨v3, T3, X3, E3, g3⟩ := X0.callS hexec (JO.Str_checkIndex.law l (Int32.ofNat i) (Int32.ofNat V.slots.size) fm) hown (wks W (staticW "java/lang/StringLatin1" 9 JO.Str_checkIndex.yN)) (wk W JO.Str_checkIndex.tab) (W := 0) (Nat.le_of_ble_eq_true rfl) (Nat.le_of_ble_eq_true rfl) (Nat.le_refl _) (Nat.le_refl _) (g := (mkF m 3 #[.val (.ref t), .val (.int (Int32.ofNat i))] [.int (Int32.ofNat V.slots.size), .int (Int32.ofNat i)])) rfl (by rw [hml]; rfl) c2 (argsL := [.int (Int32.ofNat i), .int (Int32.ofNat V.slots.size)]) (rest := []) rfl rfl (by show 2 * 0 + 0 ≤ _; decide) (hb hbytes d3) (⟨rfl, rf, s1.there X0.warmed.alike hh0, Int32.ofNat_not_neg (by omega), lt32 v31 hi⟩)
  obtain ⟨rfl, q3⟩ := E3
  have hh3 := q3.trans hh0
  have c4 : Steps p.tables e below (s₁.setTop (entryFrame m #[.ref t, .int (Int32.ofNat i)] 2)) (T3.setTop (mkF m 14 #[.val (.ref t), .val (.int (Int32.ofNat i))] [.int (chr8 u)])) := Steps.trans g3 (by
    refine XS.aloadN X3.here hexec rfl (hb hbytes d6) rfl rfl ?_
    refine XS.iloadN X3.here hexec rfl (hb hbytes d7) rfl ?_
    refine X3.aget hexec (hV.mv X3.warmed.alike hh3) rfl hu rfl rfl (hb hbytes d8) ?_
    refine sipushV X3.here hexec rfl 255 (hb hbytes d9) (by decide) ?_
    refine XS.iand X3.here hexec rfl (hb hbytes d12) rfl ?_
    refine i2c X3.here hexec rfl (hb hbytes d13) rfl ?_
    exact Steps.refl _)
  exact ⟨T3, some (.int (chr8 u)), _, _, _, X3, rfl, rfl, rfl, (fun h => by cases h), ⟨rfl, hh3⟩, fun fs hl => c4.trans (X3.ireturnOut hexec hret (narrow_c _) (Or.inr (Or.inr (Or.inr (Or.inl rfl)))) (hb hbytes d14) hl)⟩
end LChA
end StrChars
namespace StrChars.Road
open Jvm Sem ClassFile Op Lib Jvm.Stand Jvm.Free Jvm.Free.XT
open Jvm.Lib.Cold (StaticIs)
theorem consq {a : Array Value} {s : State} {c : Jvm.Cond} {L : List Jvm.Cond} (h0 : c.before a s = true) (h : ∀ w ∈ L, w.before a s = true) : ∀ w ∈ c :: L, w.before a s = true := fun w hw => (List.mem_cons.mp hw).elim (fun e => e ▸ h0) (h w)
/-- the bytes of the chars cs, low before high -/
def wideBytes : List Int32 → List Value
  | [] => []
  | c :: cs => .int (lo8 c) :: .int (hi8 c) :: wideBytes cs
theorem wide_lo (d : Value) : ∀ (cs : List Int32) (j : Nat), j < cs.length → (wideBytes cs).getD (2 * j) d = .int (lo8 (cs.getD j 0))
  | [], j, h => absurd h (Nat.not_lt_zero j)
  | c :: cs, 0, _ => rfl
  | c :: cs, j + 1, h => by
    have q := wide_lo d cs j (by simpa using h)
    rw [show 2 * (j + 1) = 2 * j + 1 + 1 from by omega]
    simpa [wideBytes] using q
theorem wide_hi (d : Value) : ∀ (cs : List Int32) (j : Nat), j < cs.length → (wideBytes cs).getD (2 * j + 1) d = .int (hi8 (cs.getD j 0))
  | [], j, h => absurd h (Nat.not_lt_zero j)
  | c :: cs, 0, _ => rfl
  | c :: cs, j + 1, h => by
    have q := wide_hi d cs j (by simpa using h)
    rw [show 2 * (j + 1) + 1 = 2 * j + 1 + 1 + 1 from by omega]
    simpa [wideBytes] using q
theorem low_at (d : Value) (cs : List Int32) (j : Nat) (h : j < cs.length) : (cs.map fun c => Value.int (lo8 c)).getD j d = .int (lo8 (cs.getD j 0)) := by
  simp [List.getD_eq_getElem?_getD, h]
/-- an array of N2 bytes vs codes the chars cs by the coder cd -/
def CodA (cs : List Int32) (cd N2 : Int32) (vs : List Value) : Prop := (cd = 0 ∧ N2 = Int32.ofNat cs.length ∧ vs = (cs.map fun c => Value.int (lo8 c)) ∧ ∀ c ∈ cs, ¬ 255 < c) ∨ (cd = 1 ∧ N2 = Int32.ofNat (2 * cs.length) ∧ vs = wideBytes cs ∧ ∃ c ∈ cs, 255 < c)
theorem CodA.cod {cs : List Int32} {cd N2 : Int32} {vs : List Value} {V : Cell} (h : CodA cs cd N2 vs) (hn : 2 * cs.length < 2 ^ 31) (hs : V.slots.size = N2.toNatClampNeg) (hv : RoadKit.Has V vs (.int 0)) : Cod cd cs.length (fun j => cs.getD j 0) V := by
  rcases h with ⟨rfl, rfl, rfl, h⟩ | ⟨rfl, rfl, rfl, c, hc, hw⟩
  · rw [n32 (by omega)] at hs
    exact Or.inl ⟨rfl, hs, fun j hj => ⟨by rw [hv j (by omega), low_at _ _ _ hj], by
      have e : cs.getD j 0 = cs[j] := by simp [List.getD_eq_getElem?_getD, hj]
      show ¬ 255 < cs.getD j 0
      rw [e]; exact h _ (List.getElem_mem _)⟩⟩
  · rw [n32 (by omega)] at hs
    obtain ⟨j, hj, rfl⟩ := List.getElem_of_mem hc
    exact Or.inr ⟨rfl, hs, fun j hj => ⟨by rw [hv _ (by omega), wide_lo _ _ _ hj], by rw [hv _ (by omega), wide_hi _ _ _ hj]⟩, j, hj, by
      have e : cs.getD j 0 = cs[j] := by simp [List.getD_eq_getElem?_getD, hj]
      show 255 < cs.getD j 0
      rw [e]; exact hw⟩
/-- an object of exactly java/lang/String, its two fields found: as the laws ask it -/
theorem strObj {Z U : State} {a0 : Array Value} {kI : Nat} (wi : (Jvm.Cond.instantiable ST kI).before a0 Z = true) (al : Z.vm.Alike U.vm) {x : Addr} {v0 c0 : Value} (E : RoadKit.Exa Z U.heap x ST) (V : RoadKit.Fld Z U.heap x ST "value" "[B" v0) (C : RoadKit.Fld Z U.heap x ST "coder" "B" c0) :
    ∃ (D : Cell) (fV fC : Field), Blank ST x D U ∧ Found ST "value" "[B" fV U ∧ Found ST "coder" "B" fC U ∧ D.slots[fV.slot]? = some v0 ∧ D.slots[fC.slot]? = some c0 ∧ RoadKit.slotOf Z ST "value" "[B" = fV.slot ∧ RoadKit.slotOf Z ST "coder" "B" = fC.slot := by
  obtain ⟨D, cfV, kV, iV, fV, hD, gV, stV, knV, obV, asV, slV⟩ := V
  obtain ⟨D', cfC, kC, iC, fC, hD', gC, stC, -, -, asC, slC⟩ := C
  cases hD.symm.trans hD'
  obtain ⟨D2, kD, e1, e2, e3, e4, e5⟩ := E
  cases hD.symm.trans e1
  obtain ⟨c2, k2, i1, i2, i3, -⟩ := Cond.instantiable_spec wi
  cases e2.symm.trans i1
  cases e3.symm.trans i2
  obtain ⟨kU, u1, u2⟩ := al.2.2 _ _ e3
  exact ⟨D, fV, fC, ⟨hD, ⟨knV, fun q hq => by rw [hq] at obV; cases obV⟩, by rw [al.findClass]; exact e2, kU, u1, by rw [u2]; exact i3, by rw [u2]; exact e5 i3⟩, ⟨SBG.found_only al ⟨cfV, kV, iV, gV⟩, stV⟩, ⟨SBG.found_only al ⟨cfC, kC, iC, gC⟩, stC⟩, slV, slC, by simp [RoadKit.slotOf, gV], by simp [RoadKit.slotOf, gC]⟩
theorem sta_is {Z U : State} (al : Z.vm.Alike U.vm) {C n d : String} {v : Value} (S : RoadKit.Sta Z U.heap C n d v) : StaticIs U C n d v := by
  obtain ⟨cfS, iS, kS, fS, st, cS, t1, t2, t3, t4, t5, t6, t7⟩ := S
  exact StaticIs.there (s := { Z with heap := U.heap }) ⟨cfS, iS, kS, fS, st, cS, t1, t2, t3, t4, t5, (fun q => by rw [q] at t6; cases t6), t7⟩ al rfl
end StrChars.Road
namespace StrChars.Road
open Jvm Sem ClassFile Op Lib Jvm.Stand Jvm.Free Jvm.Free.XT
open Jvm.Lib.Cold (StaticIs)
/-- the road's facts of a String, as the laws ask it -/
theorem txt_of {Z U : State} {a0 : Array Value} {kI : Nat} (wi : (Jvm.Cond.instantiable ST kI).before a0 Z = true) (al : Z.vm.Alike U.vm) {x t : Addr} {kb : ClassId} {cs : List Int32} {cd N2 : Int32} {vs : List Value} (E : RoadKit.Exa Z U.heap x ST) (V : RoadKit.Fld Z U.heap x ST "value" "[B" (.ref t)) (C : RoadKit.Fld Z U.heap x ST "coder" "B" (.int cd)) (K : RoadKit.Arv Z U.heap t kb .byte N2 vs (.int 0)) (hc : CodA cs cd N2 vs) (hb : ∀ c ∈ cs, ¬ c < 0 ∧ ¬ (65535 : Int32) < c) (l2 : cs.length ≤ 4000) :
    ∃ A, Txt x t A cd cs.length (fun j => cs.getD j 0) U := by
  obtain ⟨A, K1, K2, K3, K4, K5, K6⟩ := K
  have hcod := hc.cod (by omega) K3 K5
  obtain ⟨D, fV, fC, hB, F1, F2, g1, g2, -, -⟩ := strObj wi al E V C
  exact ⟨A, ⟨_, hB.2.2.1, D, hB.1, rfl, by cases q : D.vm <;> first | rfl | exact absurd q (hB.2.1.2 _)⟩, Has.of hB F1 g1, Has.of hB F2 g2, ⟨K1.1, State.isArrayOf_alike al K1.2.1, K1.2.2, by rcases hcod with ⟨-, q, -⟩ | ⟨-, q, -⟩ <;> omega⟩, hcod, fun j hj => by
    have e : cs.getD j 0 = cs[j] := by simp [List.getD_eq_getElem?_getD, hj]
    show ¬ cs.getD j 0 < 0 ∧ ¬ 65535 < cs.getD j 0
    rw [e]; exact hb _ (List.getElem_mem _)⟩
end StrChars.Road
namespace StrChars
open Jvm Sem ClassFile Op Lib Jvm.Stand Jvm.Free.XT Jvm.Free.ALB Jvm.Free.JM Jvm.Free
open Jvm.Lib.Cold (StaticIs)
namespace ChN
def yN : MethodName := ⟨"java/lang/String", "charAt", "(I)C"⟩
abbrev yB : ByteArray := jdk_42_method_56_code
theorem d0 : decode yB 0 = .ok (.aload_n 0, 1) := by decide +kernel
theorem d1 : decode yB 1 = .ok (.invokevirtual 492, 3) := by decide +kernel
theorem d4 : decode yB 4 = .ok (.ifCond (.eq) 12, 3) := by decide +kernel
theorem d7 : decode yB 7 = .ok (.aload_n 0, 1) := by decide +kernel
theorem d8 : decode yB 8 = .ok (.getfield 9, 3) := by decide +kernel
theorem d11 : decode yB 11 = .ok (.iload_n 1, 1) := by decide +kernel
theorem d12 : decode yB 12 = .ok (.invokestatic 495, 3) := by decide +kernel
theorem d15 : decode yB 15 = .ok (.ireturn, 1) := by decide +kernel
def site : List Cond := [.fieldLink "java/lang/String" 9 "java/lang/String" "value" "[B", IsL.tab, LChA.tab] ++ virtW "java/lang/String" 492 "java/lang/String" IsL.yN IsL.yN ++ staticW "java/lang/String" 495 LChA.yN
def tab : Cond := tabOf yN yB 2 (some .char) site
def P (x t : Addr) (V : Cell) (n : Nat) (f : Nat → Int32) (z : Int32) (fm : Value) (i : Nat) (args : Array Value) (s : State) : Prop := args = #[.ref x, .int (Int32.ofNat i)] ∧ Txt x t V 0 n f s ∧ i < n ∧ StaticIs s "java/lang/String" "COMPACT_STRINGS" "Z" (.int z) ∧ ¬ z = 0 ∧ StaticIs s "jdk/internal/util/Preconditions" "SIOOBE_FORMATTER" "Ljava/util/function/BiFunction;" fm ∧ fm.isRef = true
def E (f : Nat → Int32) (i : Nat) (r : Option Value) (s u : State) : Prop := XT.PureE (some (.int (f i))) r s u
/-- charAt(i) of a Latin-1 String of n chars, i < n: f i -/
theorem law (l : Launch) (x t : Addr) (V : Cell) (n : Nat) (f : Nat → Int32) (z : Int32) (fm : Value) (i : Nat) : Law l yN 2 1 3 40 yB 2 (some .char) site (P x t V n f z fm i) (E f i) [] 0 0 := by
  refine Law.of_walk (plainFor_of_name (by decide +kernel)) (by decide +kernel) (by decide +kernel) (by decide) (fun _ _ h => by rw [h.1]; rfl) (fun _ U U' hal hh h => ⟨h.1, h.2.1.mv hal hh, h.2.2.1, h.2.2.2.1.there hal hh, h.2.2.2.2.1, h.2.2.2.2.2.1.there hal hh, h.2.2.2.2.2.2⟩) (fun r U U' V V' h1 hal h2 h => XT.PureE.mv r U U' V V' h1 hal h2 h) ?_
  intro p e s m args below meth c s₁ X0 hexec hbytes hml hret hlk hnm hown hh0 W hP
  obtain ⟨rfl, hx, hi, s1, hz, s3, rf⟩ := hP
  have v31 := hx.2.2.2.1.2.2.2
  have hr := hx.2.2.2.2.2 i hi
  have hx0 := hx.mv X0.warmed.alike hh0
  have c1 : Steps p.tables e below (s₁.setTop (entryFrame m #[.ref x, .int (Int32.ofNat i)] 2)) (s₁.setTop (mkF m 1 #[.val (.ref x), .val (.int (Int32.ofNat i))] [.ref x])) := Steps.trans (entry rfl) (by
    show Steps p.tables e below (s₁.setTop (mkF m 0 #[.val (.ref x), .val (.int (Int32.ofNat i))] [])) _
    refine XS.aloadN X0.here hexec rfl (hb hbytes d0) rfl rfl ?_
    exact Steps.refl _)
  obtain ⟨v2, T2, X2, E2, g2⟩ := X0.callV hexec (IsL.law l x 0 z) hown (wks W (virtW "java/lang/String" 492 "java/lang/String" IsL.yN IsL.yN)) rfl (by decide) (wk W IsL.tab) (W := 0) (Nat.le_of_ble_eq_true rfl) (Nat.le_of_ble_eq_true rfl) (Nat.le_refl _) (Nat.le_refl _) (hx0.1.fc X0.warmed.alike) hx0.1.is (g := (mkF m 1 #[.val (.ref x), .val (.int (Int32.ofNat i))] [.ref x])) rfl (by rw [hml]; rfl) c1 (argsL := []) (rest := []) rfl rfl (by show 2 * 0 + 0 ≤ _; decide) (hb hbytes d1) (⟨rfl, hx0.2.2.1, hx.2.2.2.2.1.cd, s1.there X0.warmed.alike hh0, hz⟩)
  obtain ⟨rfl, q2⟩ := E2
  have hh2 := q2.trans hh0
  have hx2 := hx.mv X2.warmed.alike hh2
  obtain ⟨-, k1, k2⟩ | ⟨k0, -⟩ := hx.2.2.2.2.1
  · have c3 : Steps p.tables e below (s₁.setTop (entryFrame m #[.ref x, .int (Int32.ofNat i)] 2)) (T2.setTop (mkF m 8 #[.val (.ref x), .val (.int (Int32.ofNat i))] [.ref x])) := Steps.trans g2 (by
      refine XS.ifNo X2.here hexec rfl (hb hbytes d4) rfl (i0_eq_f (by decide)) ?_
      refine XS.aloadN X2.here hexec rfl (hb hbytes d7) rfl rfl ?_
      exact Steps.refl _)
    obtain ⟨T4, X4, q4, st4⟩ := X2.hget hexec hown (wk W (.fieldLink "java/lang/String" 9 "java/lang/String" "value" "[B")) hx2.2.1 (g := (mkF m 8 #[.val (.ref x), .val (.int (Int32.ofNat i))] [.ref x])) rfl (rest := []) rfl (hb hbytes d8)
    have hh4 := q4.trans hh2
    have c5 : Steps p.tables e below (s₁.setTop (entryFrame m #[.ref x, .int (Int32.ofNat i)] 2)) (T4.setTop (mkF m 12 #[.val (.ref x), .val (.int (Int32.ofNat i))] [.int (Int32.ofNat i), .ref t])) := (c3.trans (st4 _ (Steps.refl _))).trans (by
      refine XS.iloadN X4.here hexec rfl (hb hbytes d11) rfl ?_
      exact Steps.refl _)
    obtain ⟨v6, T6, X6, E6, g6⟩ := X4.callS hexec (LChA.law l t V i (lo8 (f i)) fm) hown (wks W (staticW "java/lang/String" 495 LChA.yN)) (wk W LChA.tab) (W := 0) (Nat.le_of_ble_eq_true rfl) (Nat.le_of_ble_eq_true rfl) (Nat.le_refl _) (Nat.le_refl _) (g := (mkF m 12 #[.val (.ref x), .val (.int (Int32.ofNat i))] [.int (Int32.ofNat i), .ref t])) rfl (by rw [hml]; rfl) c5 (argsL := [.ref t, .int (Int32.ofNat i)]) (rest := []) rfl rfl (by show 2 * 0 + 0 ≤ _; decide) (hb hbytes d12) (⟨rfl, hx.2.2.2.1.mv X4.warmed.alike hh4, (k2 i hi).1, s3.there X4.warmed.alike hh4, rf⟩)
    obtain ⟨rfl, q6⟩ := E6
    rw [chr8_lo8 hr.1 (k2 i hi).2] at g6
    exact ⟨T6, some (.int (f i)), _, _, _, X6, rfl, rfl, rfl, (fun h => by cases h), ⟨rfl, q6.trans hh4⟩, fun fs hl => Steps.trans g6 (X6.ireturnOut hexec hret (narrow_ch hr.1 hr.2) (Or.inr (Or.inr (Or.inr (Or.inl rfl)))) (hb hbytes d15) hl)⟩
  · exact absurd k0 (by decide)
theorem pays {l : Launch} {R : Room} {p : Program} {e : Env} {below : List Frame} {s : State} {sargs : Array Value} {len W : Nat} (x t : Addr) (V : Cell) (n : Nat) (f : Nat → Int32) (z : Int32) (fm : Value) (i : Nat) (htab : tab.before sargs s = true) (hfr : 4 ≤ R.frames) (hlo : W + 53 ≤ R.locals) :
    Back l R p e below s sargs yN len W (fun A₁ a₁ => A₁.cells + 0 ≤ R.cells ∧ A₁.slots + 0 ≤ R.slots ∧ P x t V n f z fm i a₁ A₁.U) (fun A₁ _ v₁ B₁ => E f i v₁ A₁.U B₁.U ∧ B₁.locs = A₁.locs ++ [] ∧ B₁.cells = A₁.cells + 0 ∧ B₁.slots = A₁.slots + 0) :=
  (law l x t V n f z fm i).pays htab hfr (by omega)
end ChN
end StrChars
namespace StrChars.Road
open Jvm Sem ClassFile Op Lib Jvm.Stand Jvm.Free Jvm.Free.XT
open Jvm.Lib.Cold (StaticIs)
/-- the words of String.charAt(int), the Latin-1 road alone -/
abbrev wordsChN : List Jvm.Cond := [.code ChN.yN ChN.yB 2 (some .char), .initialized ST, .fieldLink ST 9 ST "value" "[B", .fieldLink ST 38 ST "COMPACT_STRINGS" "Z", .fieldLink ST 15 ST "coder" "B", .code IsL.yN IsL.yB 1 (some .boolean), .methodLink ST 492 IsL.yN, .declares IsL.yN, .selects ST IsL.yN IsL.yN, .instanceMethod IsL.yN,
  .methodLink ST 495 LChA.yN, .static LChA.yN, .code LChA.yN LChA.yB 2 (some .char), .initialized "java/lang/StringLatin1", .methodLink "java/lang/StringLatin1" 9 JO.Str_checkIndex.yN, .static JO.Str_checkIndex.yN, .code JO.Str_checkIndex.yN JO.Str_checkIndex.yB 2 none,
  .fieldLink ST 1053 "jdk/internal/util/Preconditions" "SIOOBE_FORMATTER" "Ljava/util/function/BiFunction;", .methodLink ST 1059 JC.PreCheck.yN, .static JC.PreCheck.yN, .code JC.PreCheck.yN JC.PreCheck.yB 3 (some .int), .initialized "jdk/internal/util/Preconditions"]
theorem tabChN_of {a : Array Value} {s : State} (h : ∀ w ∈ wordsChN, w.before a s = true) : ChN.tab.before a s = true := by
  have hp : JC.PreCheck.tab.before a s = true := unparts (wk h (.code JC.PreCheck.yN JC.PreCheck.yB 3 (some .int))) (wks h (.initialized JC.PreCheck.yN.cls :: JC.PreCheck.site))
  have qk := consq hp h
  have hk : JO.Str_checkIndex.tab.before a s = true := unparts (wk qk (.code JO.Str_checkIndex.yN JO.Str_checkIndex.yB 2 none)) (wks qk (.initialized JO.Str_checkIndex.yN.cls :: JO.Str_checkIndex.site))
  have ql := consq hk h
  have hl : LChA.tab.before a s = true := unparts (wk ql (.code LChA.yN LChA.yB 2 (some .char))) (wks ql (.initialized LChA.yN.cls :: LChA.site))
  have hi : IsL.tab.before a s = true := unparts (wk h (.code IsL.yN IsL.yB 1 (some .boolean))) (wks h (.initialized IsL.yN.cls :: IsL.site))
  have q := consq hi (consq hl h)
  exact unparts (wk q (.code ChN.yN ChN.yB 2 (some .char))) (wks q (.initialized ChN.yN.cls :: ChN.site))
theorem movedChN {Z s : State} {a0 args : Array Value} (hZ : Z.Warmed39 s.vm) (hw : ∀ d ∈ wordsChN, d.before a0 Z = true) : ∀ d ∈ wordsChN, d.before args s = true := fun d hd => by
  have t : ∀ d ∈ wordsChN, (d.onTables && d.keepsFace) = true := by decide +kernel
  exact RoadKit.mv hZ (hw d hd) (t d hd)
/-- **charAt(i) OF A LATIN-1 STRING**, i < n: the char -/
theorem chN {p : Program} {l : Launch} {e : Env} {R : Room} {s : State} {args : Array Value} {below : List Frame} {len W : Nat} {Z : State} {a0 : Array Value} {h : Heap} (hZ : Z.Warmed39 s.vm) (hw : ∀ d ∈ wordsChN, d.before a0 Z = true) {kI : Nat} (wi : (Jvm.Cond.instantiable ST kI).before a0 Z = true)
    {x t : Addr} {kb : ClassId} {cs : List Int32} {N2 z : Int32} {vs : List Value} {fm : Value} {i : Nat} {j : Int32} (E : RoadKit.Exa Z h x ST) (V : RoadKit.Fld Z h x ST "value" "[B" (.ref t)) (C : RoadKit.Fld Z h x ST "coder" "B" (.int 0)) (K : RoadKit.Arv Z h t kb .byte N2 vs (.int 0)) (hc : CodA cs 0 N2 vs) (hb : ∀ c ∈ cs, ¬ c < 0 ∧ ¬ (65535 : Int32) < c)
    (S : RoadKit.Sta Z h ST "COMPACT_STRINGS" "Z" (.int z)) (hz : ¬ z = 0) (F : RoadKit.Sta Z h "jdk/internal/util/Preconditions" "SIOOBE_FORMATTER" "Ljava/util/function/BiFunction;" fm) (rf : fm.isRef = true) (l2 : cs.length ≤ 4000) (hi : i < cs.length) (hj : j = Int32.ofNat i) (hfr : 4 ≤ R.frames) (hlo : W + 53 ≤ R.locals) :
    Back l R p e below s args (⟨"java/lang/String", "charAt", "(I)C"⟩ : MethodName) len W (fun P a => a = #[.ref x, .int j] ∧ P.U.heap = h ∧ P.cells + 0 ≤ R.cells ∧ P.slots + 0 ≤ R.slots)
      (fun P _ v B => ∃ L, (v = some (.int (cs.getD i 0)) ∧ L = [] ∧ B.U.heap = h) ∧ B.locs = P.locs ++ L ∧ B.cells = P.cells + 0 ∧ B.slots = P.slots + 0) := by
  subst hj
  intro m meth c P g ig mk a X hg hsize hdg hW hn hp'
  obtain ⟨rfl, rfl, r1, r2⟩ := hp'
  have al : Z.vm.Alike P.U.vm := hZ.alike.trans X.warmed.alike
  obtain ⟨A, hx⟩ := txt_of wi al E V C K hc hb l2
  obtain ⟨v, B, X', ⟨⟨hv, hh⟩, hl, hk, hs⟩, st⟩ := ChN.pays x t A cs.length (fun j => cs.getD j 0) z fm i (tabChN_of (movedChN hZ hw)) hfr hlo m meth c P g ig mk _ X hg hsize hdg hW hn ⟨r1, r2, rfl, hx, hi, sta_is al S, hz, sta_is al F, rf⟩
  exact ⟨v, B, X', ⟨[], ⟨hv, rfl, hh⟩, hl, hk, hs⟩, st⟩
/-- what backV says of its String, as the contracts of this text ask it: cs's low bytes, coder 0 -/
theorem codOf {cs : List Int32} {n : Nat} (hn : cs.length = n) (hb : ∀ c ∈ cs, ¬ 255 < c) : CodA cs 0 (Int32.ofNat n) ((cs.map lo8).map Value.int) := Or.inl ⟨rfl, by rw [hn], by simp [List.map_map, Function.comp_def], hb⟩
end StrChars.Road
end Jvm.Pilot.@@N@@
namespace Jvm.Pilot.@@N@@
open Jvm Jvm.ClassFile Sem Op Lib Jvm.Free Jvm.Stand Jvm.LawKit Jvm.RoadKit Bundle Jvm.Pilot.@@N@@.Jvm.D
set_option maxRecDepth 65536
set_option maxHeartbeats 40000000
def CHrN (Z : State) (EL : List (String × Nat)) (vm : Vm) (h : Heap) (vm1 : Vm) (h' : Heap) : Prop := CHr Z EL vm h vm1 h' ∧ ∀ s : State, s.vm = vm → s.WarmedH vm1
section Narrow
variable {p : Program} {l : Launch} {e : Env} {R : Room} {s : State} {m : MethodId} {args : Array Value} {below : List Frame} {meth : Method} {c : Code} {T : State} {locs : List Loc} {cells slots : Nat} {Z : State} {a0 : Array Value} {EL : List (String × Nat)} {vm vm0 vm1 vm2 : Vm} {h h' h2 : Heap}
theorem wh_refl (s : State) (e : s.vm = vm) : s.WarmedH vm := e ▸ State.WarmedH.refl s
theorem CHrN.refl (H : CHv Z EL vm h) : CHrN Z EL vm h vm h := ⟨CHr.refl H, wh_refl⟩
theorem CHrN.trans (A : CHrN Z EL vm h vm1 h') (B : CHrN Z EL vm1 h' vm2 h2) : CHrN Z EL vm h vm2 h2 := ⟨A.1.trans B.1, fun s e => State.WarmedH.trans (t := s.setVm vm1) (A.2 s e) (B.2 (s.setVm vm1) rfl)⟩
theorem CHrN.ext (E : Ext h h') (H : CHv Z EL vm h) : CHrN Z EL vm h vm h' := ⟨CHr.ext E H, wh_refl⟩
theorem CHrN.keep {ws : List Addr} (K : Keep h h' ws) (hs : ∀ x ∈ ws, Safe Z EL vm h x) (H : CHv Z EL vm h) : CHrN Z EL vm h vm h' := ⟨CHr.keep K hs H, wh_refl⟩
theorem CHrN.wr {a : Addr} {sl : Nat} {v : Value} (W : Wr h h' a sl v) (S : Safe Z EL vm h a) (H : CHv Z EL vm h) : CHrN Z EL vm h vm h' := ⟨CHr.wr W S H, wh_refl⟩
theorem CHrN.safe (A : CHrN Z EL vm h vm1 h') {x : Addr} (hx : x < h.size) (S : Safe Z EL vm h x) : Safe Z EL vm1 h' x := A.1.safe hx S
theorem CHvN.at (X : Stand p l e R (s.setVm vm0) m args below meth c T locs cells slots) (hZ : Z.Warmed39 vm0) (w : EW Z a0 EL) (H : CHv Z EL vm0 h) : CHrN Z EL vm0 h T.vm h := ⟨CHv.at X hZ w H, fun s' e' => State.WarmedH.of_rootvm (s := s.setVm vm0) e' X.warmed⟩
end Narrow
section Kit
variable {p : Program} {l : Launch} {e : Env} {R : Room} {s : State} {m : MethodId} {args : Array Value} {below : List Frame} {meth : Method} {c : Code} {Z : State} {a0 : Array Value} {EL : List (String × Nat)} {own : String} {sf : List Addr} {T : State} {h h' h0 : Heap} {k n k' n' rc rs pc : Nat} {Ls : Array Slot} {stk rest : List Value} {Q : Option Value → Heap → Prop}
/-- where a walk stands: the library's Stand over the start with the tables at hand, and what rides along -/
def Wk (p : Program) (l : Launch) (e : Env) (R : Room) (s : State) (m : MethodId) (args : Array Value) (below : List Frame) (meth : Method) (c : Code) (Z : State) (a0 : Array Value) (EL : List (String × Nat)) (own : String) (sf : List Addr) (T : State) (h : Heap) (k n : Nat) : Prop :=
  p.tables.exec = Jvm.exec ∧ meth.locks = false ∧ EW Z a0 EL ∧ Ext Z.heap s.heap ∧ ∃ (vm0 : Vm) (k0 : Nat) (L : List Loc), Stand p l e R (s.setVm vm0) m args below meth c T L k n ∧ T.heap = h ∧ s.Since vm0 k0 ∧ k0 ≤ h.size ∧ Z.Warmed39 vm0 ∧ vm0.findClass own = some m.cls ∧ CHrN Z EL s.vm s.heap vm0 h ∧ (∀ x ∈ sf, x < h.size ∧ Safe Z EL vm0 h x) ∧ Fr Z.heap.size L
/-- from the state st the invocation ends, with Q of its value and heap -/
def Go (p : Program) (e : Env) (below : List Frame) (s : State) (Z : State) (EL : List (String × Nat)) (rc rs : Nat) (Q : Option Value → Heap → Prop) (st : State) : Prop :=
  ∃ t o, Steps p.tables e below st t ∧ t.status = .running ∧ Ended t below o ∧ ∃ v L, o = .returned v ∧ (Q v t.heap ∧ Fr Z.heap.size L) ∧ CHrN Z EL s.vm s.heap t.vm t.heap ∧ ReturnedEndW s o t L rc rs
/-- a method's contract: at these arguments and this heap it ends, with Q of its value and heap -/
def Con (l : Launch) (Z : State) (EL : List (String × Nat)) (sf : List Addr) (y : MethodName) (bytes : ByteArray) (maxL : Nat) (ret : Option FieldType) (ws : List Cond) (rm : Room) (as' : Array Value) (h : Heap) (Q : Option Value → Heap → Prop) : Prop :=
  MetFree l y (head1 (Cond.code y bytes maxL ret :: ws) rm) (fun a U => a = as' ∧ Z.Warmed39 U.vm ∧ U.heap = h ∧ CHv Z EL U.vm h ∧ ∀ x ∈ sf, Safe Z EL U.vm h x) (fun _ _ _ _ _ => True) (fun _ U o U' => ∃ v L, o = .returned v ∧ (Q v U'.heap ∧ Fr Z.heap.size L) ∧ CHrN Z EL U.vm U.heap U'.vm U'.heap ∧ ReturnedEndW U o U' L rm.cells rm.slots)
theorem Go.by {st st' : State} (q : ∀ t, Steps p.tables e below st' t → Steps p.tables e below st t) (f : Go p e below s Z EL rc rs Q st') : Go p e below s Z EL rc rs Q st := by
  obtain ⟨t, o, h1, r⟩ := f; exact ⟨t, o, q t h1, r⟩
theorem Go.of {st st' : State} (q : Steps p.tables e below st st') (f : Go p e below s Z EL rc rs Q st') : Go p e below s Z EL rc rs Q st := f.by fun t r => q.trans r
theorem Wk.hx (W : Wk p l e R s m args below meth c Z a0 EL own sf T h k n) : p.tables.exec = Jvm.exec := W.1
theorem Wk.here (W : Wk p l e R s m args below meth c Z a0 EL own sf T h k n) : At T m c below := by obtain ⟨-, -, -, -, vm0, k0, L, X, -⟩ := W; exact X.here
theorem Wk.old (W : Wk p l e R s m args below meth c Z a0 EL own sf T h k n) : Ext Z.heap h := by
  obtain ⟨-, -, -, hE, vm0, k0, L, X, rfl, -, -, -, -, -, -, N⟩ := W
  refine ⟨Nat.le_trans hE.1 X.same.2.1, fun b cl hb => ?_⟩
  obtain ⟨c', h1, h2, -, h4⟩ := X.same.2.2.2.2.2 b cl (hE.2 b cl hb)
  have hlt := (Array.getElem?_eq_some_iff.mp hb).1
  have hsl : c'.slots = cl.slots := Array.ext_getElem? fun i => h4 i fun hm => absurd (N _ hm) (Nat.not_le.mpr hlt)
  have hcc : c' = cl := by rw [h2, hsl]
  rw [← hcc]; exact h1
theorem Wk.mono (W : Wk p l e R s m args below meth c Z a0 EL own sf T h k n) (hk : k ≤ k') (hn : n ≤ n') : Wk p l e R s m args below meth c Z a0 EL own sf T h k' n' := by
  obtain ⟨w1, w2, w3, w4, vm0, k0, L, X, r⟩ := W; exact ⟨w1, w2, w3, w4, vm0, k0, L, X.mono hk hn, r⟩
theorem Wk.less {sf' : List Addr} (W : Wk p l e R s m args below meth c Z a0 EL own sf T h k n) (q : ∀ x ∈ sf', x ∈ sf) : Wk p l e R s m args below meth c Z a0 EL own sf' T h k n := by
  obtain ⟨w1, w2, w3, w4, vm0, k0, L, X, r1, r2, r3, r4, r5, r6, r7, r8⟩ := W; exact ⟨w1, w2, w3, w4, vm0, k0, L, X, r1, r2, r3, r4, r5, r6, fun x hx => r7 x (q x hx), r8⟩
/-- what is safe by its class -/
theorem Wk.safeE {C : String} {x : Addr} (W : Wk p l e R s m args below meth c Z a0 EL own sf T h k n) (E : Exa Z h x C) (h1 : C ≠ "java/lang/String") (h2 : C ≠ "[B") : Wk p l e R s m args below meth c Z a0 EL own (x :: sf) T h k n := by
  obtain ⟨w1, w2, w3, w4, vm0, k0, L, X, r1, r2, r3, r4, r5, r6, r7, r8⟩ := W
  exact ⟨w1, w2, w3, w4, vm0, k0, L, X, r1, r2, r3, r4, r5, r6, fun y hy => by
    rcases List.mem_cons.mp hy with rfl | hy
    · exact ⟨E.lt, Safe.exa r4.alike E h1 h2⟩
    · exact r7 y hy, r8⟩
/-- a contract by its body's walk -/
theorem Con.mk {y : MethodName} {bytes : ByteArray} {maxL : Nat} {ret : Option FieldType} {ws : List Cond} {rm : Room} {as' : Array Value} (hp : plainFor y = true) (hEL : EW Z a0 EL) (hE : Ext Z.heap h) (hsf : ∀ x ∈ sf, x < h.size)
    (body : ∀ (p : Program) (e : Env) (s : State) (m : MethodId) (below : List Frame) (meth : Method) (c : Code) (T : State), c.code = bytes → c.maxLocals = maxL → meth.sig.returnType = ret → meth.name = y.name → Wk p l e rm s m as' below meth c Z a0 EL y.cls sf T h 0 0 → Go p e below s Z EL rm.cells rm.slots Q (T.setTop (entryFrame m as' maxL))) :
    Con l Z EL sf y bytes maxL ret ws rm as' h Q := by
  refine MetFree.of_bodySF hp hisR ?_
  intro p e s m args below meth c s₁ Bd hml0 hP hK
  obtain ⟨rfl, hZ, hh, hC, hS⟩ := hP
  have X0 : Stand p l e rm s m args below meth c s₁ [] 0 0 := Stand.of_body Bd
  have e0 : s₁.heap = h := by rw [← hh, Bd.state]; rfl
  subst hh
  obtain ⟨t, o, h1, h2, h3, h4⟩ := body p e s m below meth c s₁ Bd.bytes hml0 Bd.returns (name_of_methodNamed Bd.named Bd.method).1
    ⟨Bd.exec, Bd.notSynchronized, hEL, hE, s.vm, 0, [], X0, e0, (State.WarmedH.refl s).since 0, Nat.zero_le _, hZ, findClass_of_methodNamed Bd.named, CHrN.refl hC, fun x hx => ⟨hsf x hx, hS x hx⟩, Fr.nil _⟩
  exact ⟨t, o, h1, h2, h3, h4⟩
/-! returns -/
theorem Wk.ret {st : State} {v : Option Value} (W : Wk p l e R s m args below meth c Z a0 EL own sf T h k n) (hk : k ≤ rc) (hn : n ≤ rs) (hv : meth.sig.returnType = none → v = none) (q : Q v h)
    (go : ∀ {L : List Loc} {vm0 : Vm}, Stand p l e R (s.setVm vm0) m args below meth c T L k n → ∀ fs : List Frame, (∀ (f : JFrame) (acts : List Action), f.method = m → f.locked = none → f.entered = [] → (doReturn e (T.setTop f) acts v).1 = T.setFrames fs) → Steps p.tables e below st (T.setFrames fs)) : Go p e below s Z EL rc rs Q st := by
  obtain ⟨w1, w2, w3, w4, vm0, k0, L, X, rfl, r2, r3, r4, r5, r6, r7, r8⟩ := W
  obtain ⟨fs, hr, hrun, hended, hW⟩ := (X.mono hk hn).leaveW r2 r3 hv w2
  have hc : CHrN Z EL s.vm s.heap T.vm T.heap := r6.trans (CHvN.at X r4 w3 r6.1.1)
  exact ⟨_, _, go X fs hr, hrun, hended, v, L, rfl, ⟨q, r8⟩, hc, hW⟩
theorem Wk.retV (W : Wk p l e R s m args below meth c Z a0 EL own sf T h k n) (hk : k ≤ rc) (hn : n ≤ rs) (hret : meth.sig.returnType = none) (hd : decode c.code pc = .ok (.return_, 1)) (q : Q none h) : Go p e below s Z EL rc rs Q (T.setTop (mkF m pc Ls [])) :=
  W.ret hk hn (fun _ => rfl) q fun X fs hr => X.returnOut W.hx hret hd hr
theorem Wk.retN {t : FieldType} {z z' : Int32} (W : Wk p l e R s m args below meth c Z a0 EL own sf T h k n) (hk : k ≤ rc) (hn : n ≤ rs) (hret : meth.sig.returnType = some t) (ht : t = .boolean ∨ t = .byte ∨ t = .char ∨ t = .short) (hd : decode c.code pc = .ok (.ireturn, 1)) (hz : nar t z = z') (q : Q (some (.int z')) h) : Go p e below s Z EL rc rs Q (T.setTop (mkF m pc Ls (.int z :: rest))) := by
  subst hz
  exact W.ret hk hn (fun h => by rw [hret] at h; cases h) q fun X fs hr => Jvm.RoadKit.retN X W.hx hret ht hd hr
theorem Wk.retI {z : Int32} (W : Wk p l e R s m args below meth c Z a0 EL own sf T h k n) (hk : k ≤ rc) (hn : n ≤ rs) (hret : meth.sig.returnType = some .int) (hd : decode c.code pc = .ok (.ireturn, 1)) (q : Q (some (.int z)) h) : Go p e below s Z EL rc rs Q (T.setTop (mkF m pc Ls (.int z :: rest))) :=
  W.ret hk hn (fun h => by rw [hret] at h; cases h) q fun X fs hr => retOut X W.hx hret rfl (Or.inl ⟨rfl, by simp, z, rfl⟩) hd hr
theorem Wk.retA {t : FieldType} {w : Value} (W : Wk p l e R s m args below meth c Z a0 EL own sf T h k n) (hk : k ≤ rc) (hn : n ≤ rs) (hret : meth.sig.returnType = some t) (ht : t.isReference = true) (hw : w.isRef = true) (hd : decode c.code pc = .ok (.areturn, 1)) (q : Q (some w) h) : Go p e below s Z EL rc rs Q (T.setTop (mkF m pc Ls (w :: rest))) :=
  W.ret hk hn (fun h => by rw [hret] at h; cases h) q fun X fs hr => retOut X W.hx hret (by rcases ref_cases hw with rfl | ⟨z, rfl⟩ <;> cases t <;> first | rfl | cases ht) (Or.inr (Or.inr (Or.inr (Or.inr ⟨rfl, ht, hw⟩)))) hd hr
/-! fields -/
theorem Wk.getf {R0 O nm d host : String} {index : Nat} {a : Addr} {v : Value} (W : Wk p l e R s m args below meth c Z a0 EL own sf T h k n) (w : (Cond.fieldLink own index R0 nm d).before a0 Z = true ∨ (Cond.fieldLinkNest own index R0 nm d host).before a0 Z = true) (via : Via Z R0 O nm d) (F : Fld Z h a O nm d v) (hd : decode c.code pc = .ok (.getfield index, 3))
    (go : ∀ T', Wk p l e R s m args below meth c Z a0 EL own sf T' h k n → Go p e below s Z EL rc rs Q (T'.setTop (mkF m (pc + 3) Ls (v :: rest)))) : Go p e below s Z EL rc rs Q (T.setTop (mkF m pc Ls (.ref a :: rest))) := by
  obtain ⟨w1, w2, w3, w4, vm0, k0, L, X, r1, r2, r3, r4, r5, r⟩ := W
  obtain ⟨T', X', e', st⟩ := getF X w1 r4 r5 w via r1 F (g := mkF m pc Ls (.ref a :: rest)) rfl rfl hd
  exact Go.by st (go T' ⟨w1, w2, w3, w4, vm0, k0, L, X', e', r2, r3, r4, r5, r⟩)
theorem Wk.gets {R0 O nm d host : String} {index : Nat} {v : Value} (W : Wk p l e R s m args below meth c Z a0 EL own sf T h k n) (w : (Cond.fieldLink own index R0 nm d).before a0 Z = true ∨ (Cond.fieldLinkNest own index R0 nm d host).before a0 Z = true) (via : Via Z R0 O nm d) (F : Sta Z h O nm d v) (hd : decode c.code pc = .ok (.getstatic index, 3))
    (go : ∀ T', Wk p l e R s m args below meth c Z a0 EL own sf T' h k n → Go p e below s Z EL rc rs Q (T'.setTop (mkF m (pc + 3) Ls (v :: stk)))) : Go p e below s Z EL rc rs Q (T.setTop (mkF m pc Ls stk)) := by
  obtain ⟨w1, w2, w3, w4, vm0, k0, L, X, r1, r2, r3, r4, r5, r⟩ := W
  obtain ⟨T', X', e', st⟩ := getS2 X w1 r4 r5 w via r1 F (g := mkF m pc Ls stk) rfl hd
  exact Go.by st (go T' ⟨w1, w2, w3, w4, vm0, k0, L, X', e', r2, r3, r4, r5, r⟩)
theorem Wk.wrote {a : Addr} {sl : Nat} {v : Value} {T' : State} {L : List Loc} {vm0 : Vm} (hxm : p.tables.exec = Jvm.exec) (hl : meth.locks = false) (hEW : EW Z a0 EL) (hE : Ext Z.heap s.heap) {k0 : Nat} (X' : Stand p l e R (s.setVm vm0) m args below meth c T' (L ++ [⟨a, sl⟩]) k n) (e' : T'.heap = h') (W' : Wr h h' a sl v) (r2 : s.Since vm0 k0) (r3 : k0 ≤ h.size) (r4 : Z.Warmed39 vm0) (r5 : vm0.findClass own = some m.cls) (r6 : CHrN Z EL s.vm s.heap vm0 h) (r7 : ∀ x ∈ sf, x < h.size ∧ Safe Z EL vm0 h x) (r8 : Fr Z.heap.size L) (ha : Z.heap.size ≤ a) (hs : a ∈ sf) :
    Wk p l e R s m args below meth c Z a0 EL own sf T' h' k n := by
  have hsz : h'.size = h.size := W'.size
  exact ⟨hxm, hl, hEW, hE, vm0, k0, _, X', e', r2, by rw [hsz]; exact r3, r4, r5, r6.trans (CHrN.wr W' (r7 a hs).2 r6.1.1), fun x hx => ⟨by rw [hsz]; exact (r7 x hx).1, Safe.wr W' (r7 a hs).2 r6.1.1 (r7 x hx).2⟩, Fr.snoc X' r8 ha⟩
theorem Wk.putf {R0 O nm d host C : String} {index kk : Nat} {ty : FieldType} {a : Addr} {v old : Value} (W : Wk p l e R s m args below meth c Z a0 EL own sf T h k n) (w : (Cond.fieldLink own index R0 nm d).before a0 Z = true ∨ (Cond.fieldLinkNest own index R0 nm d host).before a0 Z = true) (via : Via Z R0 O nm d) (F : Fld Z h a O nm d old) (E : Exa Z h a C) (Lw : (Cond.lays C O nm d).before a0 Z = true ∨ ((Cond.laysFinal C O nm d).before a0 Z = true ∧ own = O ∧ meth.name = "<init>")) (wi : (Cond.instantiable C kk).before a0 Z = true)
    (hty : parseFieldDescriptor d = some ty) (hn : narrow ty v = v) (hf : fits ty v = true) (ha : Z.heap.size ≤ a) (hs : a ∈ sf) (hd : decode c.code pc = .ok (.putfield index, 3))
    (go : ∀ T' h', Wk p l e R s m args below meth c Z a0 EL own sf T' h' k n → Wr h h' a (RoadKit.slotOf Z O nm d) v → Go p e below s Z EL rc rs Q (T'.setTop (mkF m (pc + 3) Ls rest))) : Go p e below s Z EL rc rs Q (T.setTop (mkF m pc Ls (v :: .ref a :: rest))) := by
  obtain ⟨w1, w2, w3, w4, vm0, k0, L, X, r1, r2, r3, r4, r5, r6, r7, r8⟩ := W
  obtain ⟨T', h', X', e', W', st⟩ := putF X w1 r4 r5 w via r1 F E Lw wi hty hn hf (g := mkF m pc Ls (v :: .ref a :: rest)) rfl rfl hd
  exact Go.by st (go T' h' (Wk.wrote w1 w2 w3 w4 X' e' W' r2 r3 r4 r5 r6 r7 r8 ha hs) W')
theorem Wk.putfn {R0 O nm d C : String} {index kk : Nat} {ty : FieldType} {a : Addr} {v v' old : Value} (W : Wk p l e R s m args below meth c Z a0 EL own sf T h k n) (w : (Cond.fieldLink own index R0 nm d).before a0 Z = true) (via : Via Z R0 O nm d) (F : Fld Z h a O nm d old) (E : Exa Z h a C) (Lw : (Cond.lays C O nm d).before a0 Z = true ∨ ((Cond.laysFinal C O nm d).before a0 Z = true ∧ own = O ∧ meth.name = "<init>")) (wi : (Cond.instantiable C kk).before a0 Z = true)
    (hty : parseFieldDescriptor d = some ty) (hn : narrow ty v = v') (hf : fits ty v' = true) (ha : Z.heap.size ≤ a) (hs : a ∈ sf) (hd : decode c.code pc = .ok (.putfield index, 3))
    (go : ∀ T' h', Wk p l e R s m args below meth c Z a0 EL own sf T' h' k n → Wr h h' a (RoadKit.slotOf Z O nm d) v' → Go p e below s Z EL rc rs Q (T'.setTop (mkF m (pc + 3) Ls rest))) : Go p e below s Z EL rc rs Q (T.setTop (mkF m pc Ls (v :: .ref a :: rest))) := by
  obtain ⟨w1, w2, w3, w4, vm0, k0, L, X, r1, r2, r3, r4, r5, r6, r7, r8⟩ := W
  obtain ⟨T', h', X', e', W', st⟩ := putFN X w1 r4 r5 w via r1 F E Lw wi hty hn hf (g := mkF m pc Ls (v :: .ref a :: rest)) rfl rfl hd
  exact Go.by st (go T' h' (Wk.wrote w1 w2 w3 w4 X' e' W' r2 r3 r4 r5 r6 r7 r8 ha hs) W')
/-! making -/
theorem Wk.grew {x : Addr} {T' : State} {L : List Loc} {vm0 : Vm} {k0 : Nat} (hxm : p.tables.exec = Jvm.exec) (hl : meth.locks = false) (hEW : EW Z a0 EL) (hE : Ext Z.heap s.heap) (X' : Stand p l e R (s.setVm vm0) m args below meth c T' L k' n') (e' : T'.heap = h') (E : Ext h h') (hx : x < h'.size) (hn : h.size ≤ x) (r2 : s.Since vm0 k0) (r3 : k0 ≤ h.size) (r4 : Z.Warmed39 vm0) (r5 : vm0.findClass own = some m.cls) (r6 : CHrN Z EL s.vm s.heap vm0 h) (r7 : ∀ x ∈ sf, x < h.size ∧ Safe Z EL vm0 h x) (r8 : Fr Z.heap.size L) :
    Wk p l e R s m args below meth c Z a0 EL own (x :: sf) T' h' k' n' :=
  ⟨hxm, hl, hEW, hE, vm0, k0, L, X', e', r2, Nat.le_trans r3 E.1, r4, r5, r6.trans (CHrN.ext E r6.1.1), fun y hy => by
    rcases List.mem_cons.mp hy with rfl | hy
    · exact ⟨hx, Safe.ext E r6.1.1 (Safe.new hn)⟩
    · exact ⟨Nat.lt_of_lt_of_le (r7 y hy).1 E.1, Safe.ext E r6.1.1 (r7 y hy).2⟩, r8⟩
theorem Wk.new {C : String} {index N : Nat} (W : Wk p l e R s m args below meth c Z a0 EL own sf T h k n) (w : (Cond.classLink own index C).before a0 Z = true) (wi : (Cond.instantiable C N).before a0 Z = true) (wz : (Cond.initialized C).before a0 Z = true) (hd : decode c.code pc = .ok (.new index, 3)) (ek : k + 1 = k') (en : n + N = n') (hk : k' ≤ R.cells) (hn : n' ≤ R.slots)
    (go : ∀ T' h' x, Wk p l e R s m args below meth c Z a0 EL own (x :: sf) T' h' k' n' → Ext h h' → h.size = x → Z.heap.size ≤ x → Exa Z h' x C → (∀ {O nm d : String} {ty : FieldType}, Laid Z a0 C O nm d → parseFieldDescriptor d = some ty → Fld Z h' x O nm d (defaultValue ty)) → Go p e below s Z EL rc rs Q (T'.setTop (mkF m (pc + 3) Ls (.ref x :: stk)))) : Go p e below s Z EL rc rs Q (T.setTop (mkF m pc Ls stk)) := by
  have hO := W.old
  obtain ⟨w1, w2, w3, w4, vm0, k0, L, X, r1, r2, r3, r4, r5, r6, r7, r8⟩ := W
  subst ek en
  obtain ⟨T', h', X', e', E, A, D, -, st⟩ := newO X w1 r4 r5 w wi wz r1 (g := mkF m pc Ls stk) rfl hd hk hn
  exact Go.by st (go T' h' _ (Wk.grew w1 w2 w3 w4 X' e' E A.lt (Nat.le_refl _) r2 r3 r4 r5 r6 r7 r8) E rfl hO.1 A D)
theorem Wk.newp {aty : ArrayType} {z : Int32} {cap : Nat} {ad : String} (W : Wk p l e R s m args below meth c Z a0 EL own sf T h k n) (w : (Cond.arrayClass (newarray.typeOf aty)).before a0 Z = true) (hd : decode c.code pc = .ok (.newarray aty, 2)) (hz : ¬ z < 0) (hcap : z.toNatClampNeg ≤ cap) (hb : cap * 8 ≤ 536870912) (ek : k + 1 = k') (en : n + cap = n') (hk : k' ≤ R.cells) (hn : n' ≤ R.slots) (had : "[" ++ (newarray.typeOf aty).toString = ad)
    (go : ∀ T' h' x kA, Wk p l e R s m args below meth c Z a0 EL own (x :: sf) T' h' k' n' → Ext h h' → h.size = x → Z.heap.size ≤ x → Exa Z h' x ad → Arv Z h' x kA (newarray.typeOf aty) z [] (defaultValue (newarray.typeOf aty)) → Go p e below s Z EL rc rs Q (T'.setTop (mkF m (pc + 2) Ls (.ref x :: rest)))) : Go p e below s Z EL rc rs Q (T.setTop (mkF m pc Ls (.int z :: rest))) := by
  have hO := W.old
  obtain ⟨w1, w2, w3, w4, vm0, k0, L, X, r1, r2, r3, r4, r5, r6, r7, r8⟩ := W
  subst ek en
  obtain ⟨T', h', cA, X', e', E, A, D, st⟩ := newPE X w1 r4 w r1 (g := mkF m pc Ls (.int z :: rest)) rfl hd rfl hz hcap hb hk hn had
  exact Go.by st (go T' h' _ cA (Wk.grew w1 w2 w3 w4 X' e' E D.lt (Nat.le_refl _) r2 r3 r4 r5 r6 r7 r8) E rfl hO.1 D (Arv.new A hz))
theorem Wk.newr {C : String} {index : Nat} {z : Int32} {cap : Nat} {ad : String} (W : Wk p l e R s m args below meth c Z a0 EL own sf T h k n) (wl : (Cond.classLink own index C).before a0 Z = true) (w : (Cond.arrayOver (.object C)).before a0 Z = true) (hd : decode c.code pc = .ok (.anewarray index, 3)) (hz : ¬ z < 0) (hcap : z.toNatClampNeg ≤ cap) (hb : cap * 8 ≤ 536870912) (ek : k + 1 = k') (en : n + cap = n') (hk : k' ≤ R.cells) (hn : n' ≤ R.slots) (had : "[" ++ (FieldType.object C).toString = ad)
    (go : ∀ T' h' x kA, Wk p l e R s m args below meth c Z a0 EL own (x :: sf) T' h' k' n' → Ext h h' → h.size = x → Z.heap.size ≤ x → Exa Z h' x ad → Arv Z h' x kA (.object C) z [] .null → Ovr Z kA C → Go p e below s Z EL rc rs Q (T'.setTop (mkF m (pc + 3) Ls (.ref x :: rest)))) : Go p e below s Z EL rc rs Q (T.setTop (mkF m pc Ls (.int z :: rest))) := by
  have hO := W.old
  obtain ⟨w1, w2, w3, w4, vm0, k0, L, X, r1, r2, r3, r4, r5, r6, r7, r8⟩ := W
  subst ek en
  obtain ⟨T', h', cA, X', e', E, A, D, O, st⟩ := newRE X w1 r4 r5 wl w r1 (g := mkF m pc Ls (.int z :: rest)) rfl hd rfl hz hcap hb hk hn had
  exact Go.by st (go T' h' _ cA (Wk.grew w1 w2 w3 w4 X' e' E D.lt (Nat.le_refl _) r2 r3 r4 r5 r6 r7 r8) E rfl hO.1 D (Arv.new A hz) O)
theorem Wk.initO {index Wt : Nat} {a : Addr} (W : Wk p l e R s m args below meth c Z a0 EL own sf T h k n) (w1 : (Cond.methodLink own index Lib.objectInit).before a0 Z = true) (w2 : (Cond.instanceMethod Lib.objectInit).before a0 Z = true) (w3 : (Cond.code Lib.objectInit ⟨#[0xb1]⟩ 1 none).before a0 Z = true) (hsz : Ls.size = c.maxLocals) (hd : decode c.code pc = .ok (.invokespecial index, 3)) (hf : 1 ≤ R.frames) (hW : (rest.map fun v => v.category).sum ≤ Wt) (hl : Wt + 12 ≤ R.locals)
    (go : ∀ T', Wk p l e R s m args below meth c Z a0 EL own sf T' h k n → Go p e below s Z EL rc rs Q (T'.setTop (mkF m (pc + 3) Ls rest))) : Go p e below s Z EL rc rs Q (T.setTop (mkF m pc Ls (.ref a :: rest))) := by
  obtain ⟨u1, u2, u3, u4, vm0, k0, L, X, r1, r2, r3, r4, r5, r⟩ := W
  obtain ⟨T', X', e', st⟩ := Jvm.RoadKit.initO X u1 r4 r5 w1 w2 w3 r1 (g := mkF m pc Ls (.ref a :: rest)) rfl hsz rfl hd hf (W := Wt) (by show 2 * 0 + _ ≤ _; omega) hl
  exact Go.by st (go T' ⟨u1, u2, u3, u4, vm0, k0, L, X', e', r2, r3, r4, r5, r⟩)
/-! calls -/
theorem backK {y : MethodName} {bytes : ByteArray} {maxL : Nat} {ret : Option FieldType} {rm : Room} {len Wt : Nat} {as' : Array Value} {vm0 : Vm} {sf' : List Addr} {Qc : Option Value → Heap → Prop}
    (hM : Con l Z EL sf' y bytes maxL ret [] rm as' h Qc) (hZ : Z.Warmed39 vm0) (wc : (Cond.code y bytes maxL ret).before a0 Z = true) (wz : (Cond.initialized y.cls).before a0 Z = true) (hf : rm.frames + 1 ≤ R.frames) (hl : Wt + (maxL + 11) + rm.locals ≤ R.locals) (hEL : EW Z a0 EL) (H : CHv Z EL vm0 h) (hsf : ∀ x ∈ sf', x < h.size ∧ Safe Z EL vm0 h x) :
    BackS l R p e below (s.setVm vm0) args y len Wt (fun A a => a = as' ∧ A.U.heap = h ∧ A.cells + rm.cells ≤ R.cells ∧ A.slots + rm.slots ≤ R.slots)
      (fun A _ v B => ∃ L, (Qc v B.U.heap ∧ Fr Z.heap.size L) ∧ B.locs = A.locs ++ L ∧ B.cells = A.cells + rm.cells ∧ B.slots = A.slots + rm.slots ∧ CHrN Z EL vm0 h B.U.vm B.U.heap) :=
  BackS.of_freeW (bytes := bytes) (maxL := maxL) (ret := ret) (E := fun _ first o t L k n => k = rm.cells ∧ n = rm.slots ∧ (∃ v, o = .returned v ∧ (Qc v t.heap ∧ Fr Z.heap.size L)) ∧ CHrN Z EL first.vm first.heap t.vm t.heap) hM hf hl
    (fun m meth c A a Y hp => have hU : Z.Warmed39 A.U.vm := wtrans (s := s.setVm vm0) hZ Y.warmed
      ⟨by show (Cond.and _ .tt).before a A.U = true; rw [Cond.before_and, mv hU wc]; rfl, mv hU wc, mv hU wz, hp.2.2.1, hp.2.2.2⟩)
    (fun m meth c A a g mk Y hp => ⟨hp.1, wtrans (s := s.setVm vm0) hZ Y.warmed, hp.2.1, (CHv.at Y hZ hEL H).1, fun x hx => (CHv.at Y hZ hEL H).safe (hsf x hx).1 (hsf x hx).2⟩) (fun _ _ _ _ _ _ _ _ _ => trivial)
    (fun _ _ _ _ ⟨v, L, h1, h2, h3, h4⟩ => ⟨L, _, _, h4, rfl, rfl, ⟨v, h1, h2⟩, h3⟩)
    (fun m meth c A a g mk v t L k n Y hp _ _ ⟨e1, e2, ⟨v', e3, e4⟩, e5⟩ => by
      cases e3; subst e1 e2
      refine ⟨L, e4, rfl, rfl, rfl, (CHvN.at Y hZ hEL H).trans ?_⟩
      rw [← hp.2.1]; exact e5)
theorem Wk.came {B : Pt} {v : Option Value} {rm : Room} {vm0 : Vm} {k0 : Nat} {L Lc : List Loc} {Qc : Option Value → Heap → Prop} (hxm : p.tables.exec = Jvm.exec) (hl : meth.locks = false) (hEW : EW Z a0 EL) (hE : Ext Z.heap s.heap) (X' : Stand p l e R ((s.setVm vm0).setVm B.U.vm) m args below meth c B.U B.locs B.cells B.slots) (hS : (s.setVm vm0).Since B.U.vm B.U.heap.size) (hg : h.size ≤ B.U.heap.size)
    (q : (Qc v B.U.heap ∧ Fr Z.heap.size Lc) ∧ B.locs = L ++ Lc ∧ B.cells = k + rm.cells ∧ B.slots = n + rm.slots ∧ CHrN Z EL vm0 h B.U.vm B.U.heap) (r2 : s.Since vm0 k0) (r3 : k0 ≤ h.size) (r4 : Z.Warmed39 vm0) (r5 : vm0.findClass own = some m.cls) (r6 : CHrN Z EL s.vm s.heap vm0 h) (r7 : ∀ x ∈ sf, x < h.size ∧ Safe Z EL vm0 h x) (r8 : Fr Z.heap.size L) (ek : k + rm.cells = k') (en : n + rm.slots = n') :
    Wk p l e R s m args below meth c Z a0 EL own sf B.U B.U.heap k' n' := by
  obtain ⟨⟨q1, q2⟩, q3, q4, q5, q6⟩ := q
  rw [q3, q4, q5, ek, en] at X'
  obtain ⟨Y1, Y2, Y3, Y4⟩ := rebS r2 r3 X' hS hg r4 r5
  exact ⟨hxm, hl, hEW, hE, _, _, _, Y1, rfl, Y2, Nat.le_refl _, Y3, Y4, r6.trans q6, fun x hx => ⟨Nat.lt_of_lt_of_le (r7 x hx).1 hg, q6.safe (r7 x hx).1 (r7 x hx).2⟩, r8.app q2⟩
theorem Wk.callS {y : MethodName} {index Wt maxL : Nat} {bytes : ByteArray} {ret : Option FieldType} {rm : Room} {as' : Array Value} {sf' : List Addr} {argsL : List Value} {Qc : Option Value → Heap → Prop} (W : Wk p l e R s m args below meth c Z a0 EL own sf T h k n) (w1 : (Cond.methodLink own index y).before a0 Z = true) (w2 : (Cond.static y).before a0 Z = true) (w3 : (Cond.initialized y.cls).before a0 Z = true) (w4 : (Cond.code y bytes maxL ret).before a0 Z = true) (hy : y.cls ≠ "java/lang/invoke/MethodHandle" ∧ y.cls ≠ "java/lang/invoke/VarHandle")
    (hM : Con l Z EL sf' y bytes maxL ret [] rm as' h Qc) (hsf : ∀ x ∈ sf', x ∈ sf) (hf : rm.frames + 1 ≤ R.frames) (hl : Wt + (maxL + 11) + rm.locals ≤ R.locals) (ek : k + rm.cells = k') (en : n + rm.slots = n') (hk : k' ≤ R.cells) (hn : n' ≤ R.slots) (hsz : Ls.size = c.maxLocals) (hlen : ∀ sig, parseMethodDescriptor y.desc = some sig → argsL.length = sig.parameters.length) (hst : stk = argsL.reverse ++ rest) (has : argsL.toArray = as') (hW : (rest.map fun v => v.category).sum ≤ Wt) (hd : decode c.code pc = .ok (.invokestatic index, 3))
    (go : ∀ v T' h', Wk p l e R s m args below meth c Z a0 EL own sf T' h' k' n' → Qc v h' → Go p e below s Z EL rc rs Q (T'.setTop (mkF m (pc + 3) Ls (v.toList ++ rest)))) : Go p e below s Z EL rc rs Q (T.setTop (mkF m pc Ls stk)) := by
  obtain ⟨u1, u2, u3, u4, vm0, k0, L, X, rfl, r2, r3, r4, r5, r6, r7, r8⟩ := W
  obtain ⟨v, vm₁, B, -, X', hS, hg, ⟨Lc, q⟩, st⟩ := callSS X u1 (y := y) r5 (mvT (s := s.setVm vm0) r4 w1) (mvT (s := s.setVm vm0) r4 w2) (mvT (s := s.setVm vm0) r4 w3) (mvT (s := s.setVm vm0) r4 w4) hy (backK (Wt := Wt) hM r4 w4 w3 hf hl u3 r6.1.1 fun x hx => r7 x (hsf x hx)) (g := mkF m pc Ls stk) rfl hsz (argsL := argsL) (rest := rest) hlen hst (by show 2 * 0 + _ ≤ _; omega) hd (fun _ _ => ⟨has, rfl, by rw [ek]; exact hk, by rw [en]; exact hn⟩)
  exact Go.of st (go v B.U B.U.heap (Wk.came u1 u2 u3 u4 X' hS hg q r2 r3 r4 r5 r6 r7 r8 ek en) q.1.1)
theorem Wk.callI {y : MethodName} {index Wt maxL : Nat} {bytes : ByteArray} {rm : Room} {as' : Array Value} {sf' : List Addr} {a : Addr} {argsL : List Value} {Qc : Option Value → Heap → Prop} (W : Wk p l e R s m args below meth c Z a0 EL own sf T h k n) (hy1 : y.name = "<init>") (w1 : (Cond.methodLink own index y).before a0 Z = true) (w2 : (Cond.instanceMethod y).before a0 Z = true) (w3 : (Cond.initialized y.cls).before a0 Z = true) (w4 : (Cond.code y bytes maxL none).before a0 Z = true) (hy : y.cls ≠ "java/lang/invoke/MethodHandle" ∧ y.cls ≠ "java/lang/invoke/VarHandle")
    (hM : Con l Z EL sf' y bytes maxL none [] rm as' h Qc) (hsf : ∀ x ∈ sf', x ∈ sf) (hf : rm.frames + 1 ≤ R.frames) (hl : Wt + (maxL + 11) + rm.locals ≤ R.locals) (ek : k + rm.cells = k') (en : n + rm.slots = n') (hk : k' ≤ R.cells) (hn : n' ≤ R.slots) (hsz : Ls.size = c.maxLocals) (hlen : ∀ sig, parseMethodDescriptor y.desc = some sig → argsL.length = sig.parameters.length) (hst : stk = argsL.reverse ++ .ref a :: rest) (has : (.ref a :: argsL).toArray = as') (hW : (rest.map fun v => v.category).sum ≤ Wt) (hd : decode c.code pc = .ok (.invokespecial index, 3))
    (go : ∀ v T' h', Wk p l e R s m args below meth c Z a0 EL own sf T' h' k' n' → Qc v h' → Go p e below s Z EL rc rs Q (T'.setTop (mkF m (pc + 3) Ls (v.toList ++ rest)))) : Go p e below s Z EL rc rs Q (T.setTop (mkF m pc Ls stk)) := by
  obtain ⟨u1, u2, u3, u4, vm0, k0, L, X, rfl, r2, r3, r4, r5, r6, r7, r8⟩ := W
  obtain ⟨v, vm₁, B, -, X', hS, hg, ⟨Lc, q⟩, st⟩ := X.specialBackS u1 (y := y) hy1 r5 (mvT (s := s.setVm vm0) r4 w1) (mvT (s := s.setVm vm0) r4 w2) (mvT (s := s.setVm vm0) r4 w4) hy (backK (Wt := Wt) hM r4 w4 w3 hf hl u3 r6.1.1 fun x hx => r7 x (hsf x hx)) (g := mkF m pc Ls stk) rfl hsz (Steps.refl _) (a := a) (argsL := argsL) (rest := rest) hlen hst (by show 2 * 0 + _ ≤ _; omega) hd (fun _ _ => ⟨has, rfl, by rw [ek]; exact hk, by rw [en]; exact hn⟩)
  exact Go.of st (go v B.U B.U.heap (Wk.came u1 u2 u3 u4 X' hS hg q r2 r3 r4 r5 r6 r7 r8 ek en) q.1.1)
theorem Wk.callV {y z : MethodName} {index Wt maxL : Nat} {C : String} {bytes : ByteArray} {ret : Option FieldType} {rm : Room} {as' : Array Value} {sf' : List Addr} {a : Addr} {argsL : List Value} {Qc : Option Value → Heap → Prop} (W : Wk p l e R s m args below meth c Z a0 EL own sf T h k n) (w1 : (Cond.methodLink own index y).before a0 Z = true) (w2 : (Cond.declares y).before a0 Z = true) (hnf : ∀ vm : Vm, Z.Warmed39 vm → NotFace (s.setVm vm) y) (w3 : (Cond.selects C y z).before a0 Z = true) (w5 : (Cond.instanceMethod z).before a0 Z = true) (w6 : (Cond.initialized z.cls).before a0 Z = true) (w4 : (Cond.code z bytes maxL ret).before a0 Z = true) (hy : y.cls ≠ "java/lang/invoke/MethodHandle" ∧ y.cls ≠ "java/lang/invoke/VarHandle") (E : Exa Z h a C)
    (hM : Con l Z EL sf' z bytes maxL ret [] rm as' h Qc) (hsf : ∀ x ∈ sf', x ∈ sf) (hf : rm.frames + 1 ≤ R.frames) (hl : Wt + (maxL + 11) + rm.locals ≤ R.locals) (ek : k + rm.cells = k') (en : n + rm.slots = n') (hk : k' ≤ R.cells) (hn : n' ≤ R.slots) (hsz : Ls.size = c.maxLocals) (hlen : ∀ sig, parseMethodDescriptor y.desc = some sig → argsL.length = sig.parameters.length) (hst : stk = argsL.reverse ++ .ref a :: rest) (has : (.ref a :: argsL).toArray = as') (hW : (rest.map fun v => v.category).sum ≤ Wt) (hd : decode c.code pc = .ok (.invokevirtual index, 3))
    (go : ∀ v T' h', Wk p l e R s m args below meth c Z a0 EL own sf T' h' k' n' → Qc v h' → Go p e below s Z EL rc rs Q (T'.setTop (mkF m (pc + 3) Ls (v.toList ++ rest)))) : Go p e below s Z EL rc rs Q (T.setTop (mkF m pc Ls stk)) := by
  obtain ⟨u1, u2, u3, u4, vm0, k0, L, X, rfl, r2, r3, r4, r5, r6, r7, r8⟩ := W
  obtain ⟨cq, kq, qa, qb, qc⟩ := isOf (s := s.setVm vm0) (T := T) r4 rfl E
  obtain ⟨v, vm₁, B, -, X', hS, hg, ⟨Lc, q⟩, st⟩ := X.virtualBackS u1 (y := y) (z := z) r5 (mvT (s := s.setVm vm0) r4 w1) (mvT (s := s.setVm vm0) r4 w2) (hnf vm0 r4) (mvT (s := s.setVm vm0) r4 w3) (mvT (s := s.setVm vm0) r4 w5) hy (backK (Wt := Wt) hM r4 w4 w6 hf hl u3 r6.1.1 fun x hx => r7 x (hsf x hx)) qa qc (g := mkF m pc Ls stk) rfl hsz (Steps.refl _) (argsL := argsL) (rest := rest) hlen hst (by show 2 * 0 + _ ≤ _; omega) hd (fun _ _ => ⟨has, rfl, by rw [ek]; exact hk, by rw [en]; exact hn⟩)
  exact Go.of st (go v B.U B.U.heap (Wk.came u1 u2 u3 u4 X' hS hg q r2 r3 r4 r5 r6 r7 r8 ek en) q.1.1)
theorem nf_sel {y z : MethodName} {C : String} (hyz : y = z) (w3 : (Cond.selects C y z).before a0 Z = true) : ∀ vm : Vm, Z.Warmed39 vm → NotFace (s.setVm vm) y := fun vm hv => by
  subst hyz; exact notFace_of_selects (args := #[]) (mvT (s := s.setVm vm) hv w3)
theorem cat1 {v : Value} (h : v.isRef = true) : v.category = 1 := by cases v <;> simp [Value.isRef, Value.category] at h ⊢
theorem fits_ref_of {ty : FieldType} {v : Value} (h : v.isRef = true) (ht : ty.isReference = true := by rfl) : fits ty v = true := by cases ty <;> first | (cases ht; done) | (cases v <;> simp [fits, Value.isRef] at h ⊢)
theorem narrow_ref_of {ty : FieldType} {v : Value} (h : v.isRef = true) : narrow ty v = v := by cases v <;> first | (simp [Value.isRef] at h; done) | (cases ty <;> rfl)
theorem iremW {tb : Tables} [Ours tb] {target : State} {g : JFrame} (hh : At T m c below) (hx : tb.exec = Jvm.exec) (hg : g.method = m) {x y : Int32} (hd : decode c.code g.pc = .ok (.irem, 1)) (hs : g.stack = .int y :: .int x :: rest) (hy : y ≠ 0) (hr : Steps tb e below (T.setTop { g with pc := g.pc + 1, stack := .int (x % y) :: rest }) target) : Steps tb e below (T.setTop g) target := by
  have q : x - x / y * y = x % y := irem_eq_mod x y
  exact XS.irem hh hx hg hd hs hy (by rw [q]; exact hr)
theorem acmpW {g : JFrame} {target : State} (W : Wk p l e R s m args below meth c Z a0 EL own sf T h k n) (hg : g.method = m) {cd : ACond} {x y : Value} (h1 : x.isRef = true) (h2 : y.isRef = true) {o : Int} {pc0 pc' : Nat} {same : Bool} (hpc : g.pc = pc0) (hd : decode c.code g.pc = .ok (.if_acmp cd o, 3)) (hs : g.stack = y :: x :: rest) (hq : decide (x = y) = same) (ho : 0 ≤ (pc0 : Int) + o) (hp : pc' = if acV cd same = true then ((pc0 : Int) + o).toNat else pc0 + 3)
    (hr : Steps p.tables e below (T.setTop { g with pc := pc', stack := rest }) target) : Steps p.tables e below (T.setTop g) target := by
  obtain ⟨w1, w2, w3, w4, vm0, k0, L, X, r⟩ := W
  exact Jvm.RoadKit.acmp X w1 hg h1 h2 hpc hd hs hq ho hp hr
theorem Wk.retJ {z : Int64} (W : Wk p l e R s m args below meth c Z a0 EL own sf T h k n) (hk : k ≤ rc) (hn : n ≤ rs) (hret : meth.sig.returnType = some .long) (hd : decode c.code pc = .ok (.lreturn, 1)) (q : Q (some (.long z)) h) : Go p e below s Z EL rc rs Q (T.setTop (mkF m pc Ls (.long z :: rest))) :=
  W.ret hk hn (fun h => by rw [hret] at h; cases h) q fun X fs hr => retOut X W.hx hret rfl (Or.inr (Or.inl ⟨rfl, rfl, z, rfl⟩)) hd hr
theorem Wk.callSp {y : MethodName} {index Wt maxL : Nat} {bytes : ByteArray} {ret : Option FieldType} {rm : Room} {as' : Array Value} {sf' : List Addr} {argsL : List Value} {r : Option Value} (W : Wk p l e R s m args below meth c Z a0 EL own sf T h k n) (w1 : (Cond.methodLink own index y).before a0 Z = true) (w2 : (Cond.static y).before a0 Z = true) (w3 : (Cond.initialized y.cls).before a0 Z = true) (w4 : (Cond.code y bytes maxL ret).before a0 Z = true) (hy : y.cls ≠ "java/lang/invoke/MethodHandle" ∧ y.cls ≠ "java/lang/invoke/VarHandle")
    (hM : Con l Z EL sf' y bytes maxL ret [] rm as' h (fun v h' => v = r ∧ h' = h)) (hsf : ∀ x ∈ sf', x ∈ sf) (hf : rm.frames + 1 ≤ R.frames) (hl : Wt + (maxL + 11) + rm.locals ≤ R.locals) (ek : k + rm.cells = k') (en : n + rm.slots = n') (hk : k' ≤ R.cells) (hn : n' ≤ R.slots) (hsz : Ls.size = c.maxLocals) (hlen : ∀ sig, parseMethodDescriptor y.desc = some sig → argsL.length = sig.parameters.length) (hst : stk = argsL.reverse ++ rest) (has : argsL.toArray = as') (hW : (rest.map fun v => v.category).sum ≤ Wt) (hd : decode c.code pc = .ok (.invokestatic index, 3))
    (go : ∀ T', Wk p l e R s m args below meth c Z a0 EL own sf T' h k' n' → Go p e below s Z EL rc rs Q (T'.setTop (mkF m (pc + 3) Ls (r.toList ++ rest)))) : Go p e below s Z EL rc rs Q (T.setTop (mkF m pc Ls stk)) :=
  W.callS w1 w2 w3 w4 hy hM hsf hf hl ek en hk hn hsz hlen hst has hW hd fun v T' h' W' ⟨q1, q2⟩ => by subst q1 q2; exact go T' W'
theorem Wk.callIp {y : MethodName} {index Wt maxL : Nat} {bytes : ByteArray} {rm : Room} {as' : Array Value} {sf' : List Addr} {a : Addr} {argsL : List Value} {r : Option Value} (W : Wk p l e R s m args below meth c Z a0 EL own sf T h k n) (hy1 : y.name = "<init>") (w1 : (Cond.methodLink own index y).before a0 Z = true) (w2 : (Cond.instanceMethod y).before a0 Z = true) (w3 : (Cond.initialized y.cls).before a0 Z = true) (w4 : (Cond.code y bytes maxL none).before a0 Z = true) (hy : y.cls ≠ "java/lang/invoke/MethodHandle" ∧ y.cls ≠ "java/lang/invoke/VarHandle")
    (hM : Con l Z EL sf' y bytes maxL none [] rm as' h (fun v h' => v = r ∧ h' = h)) (hsf : ∀ x ∈ sf', x ∈ sf) (hf : rm.frames + 1 ≤ R.frames) (hl : Wt + (maxL + 11) + rm.locals ≤ R.locals) (ek : k + rm.cells = k') (en : n + rm.slots = n') (hk : k' ≤ R.cells) (hn : n' ≤ R.slots) (hsz : Ls.size = c.maxLocals) (hlen : ∀ sig, parseMethodDescriptor y.desc = some sig → argsL.length = sig.parameters.length) (hst : stk = argsL.reverse ++ .ref a :: rest) (has : (.ref a :: argsL).toArray = as') (hW : (rest.map fun v => v.category).sum ≤ Wt) (hd : decode c.code pc = .ok (.invokespecial index, 3))
    (go : ∀ T', Wk p l e R s m args below meth c Z a0 EL own sf T' h k' n' → Go p e below s Z EL rc rs Q (T'.setTop (mkF m (pc + 3) Ls (r.toList ++ rest)))) : Go p e below s Z EL rc rs Q (T.setTop (mkF m pc Ls stk)) :=
  W.callI hy1 w1 w2 w3 w4 hy hM hsf hf hl ek en hk hn hsz hlen hst has hW hd fun v T' h' W' ⟨q1, q2⟩ => by subst q1 q2; exact go T' W'
theorem Wk.callVp {y z : MethodName} {index Wt maxL : Nat} {C : String} {bytes : ByteArray} {ret : Option FieldType} {rm : Room} {as' : Array Value} {sf' : List Addr} {a : Addr} {argsL : List Value} {r : Option Value} (W : Wk p l e R s m args below meth c Z a0 EL own sf T h k n) (w1 : (Cond.methodLink own index y).before a0 Z = true) (w2 : (Cond.declares y).before a0 Z = true) (hnf : ∀ vm : Vm, Z.Warmed39 vm → NotFace (s.setVm vm) y) (w3 : (Cond.selects C y z).before a0 Z = true) (w5 : (Cond.instanceMethod z).before a0 Z = true) (w6 : (Cond.initialized z.cls).before a0 Z = true) (w4 : (Cond.code z bytes maxL ret).before a0 Z = true) (hy : y.cls ≠ "java/lang/invoke/MethodHandle" ∧ y.cls ≠ "java/lang/invoke/VarHandle") (E : Exa Z h a C)
    (hM : Con l Z EL sf' z bytes maxL ret [] rm as' h (fun v h' => v = r ∧ h' = h)) (hsf : ∀ x ∈ sf', x ∈ sf) (hf : rm.frames + 1 ≤ R.frames) (hl : Wt + (maxL + 11) + rm.locals ≤ R.locals) (ek : k + rm.cells = k') (en : n + rm.slots = n') (hk : k' ≤ R.cells) (hn : n' ≤ R.slots) (hsz : Ls.size = c.maxLocals) (hlen : ∀ sig, parseMethodDescriptor y.desc = some sig → argsL.length = sig.parameters.length) (hst : stk = argsL.reverse ++ .ref a :: rest) (has : (.ref a :: argsL).toArray = as') (hW : (rest.map fun v => v.category).sum ≤ Wt) (hd : decode c.code pc = .ok (.invokevirtual index, 3))
    (go : ∀ T', Wk p l e R s m args below meth c Z a0 EL own sf T' h k' n' → Go p e below s Z EL rc rs Q (T'.setTop (mkF m (pc + 3) Ls (r.toList ++ rest)))) : Go p e below s Z EL rc rs Q (T.setTop (mkF m pc Ls stk)) :=
  W.callV w1 w2 hnf w3 w5 w6 w4 hy E hM hsf hf hl ek en hk hn hsz hlen hst has hW hd fun v T' h' W' ⟨q1, q2⟩ => by subst q1 q2; exact go T' W'
theorem Wk.callP {y : MethodName} {index Wt maxL : Nat} {C : String} {bytes : ByteArray} {ret : Option FieldType} {rm : Room} {as' : Array Value} {sf' : List Addr} {a : Addr} {argsL : List Value} {Qc : Option Value → Heap → Prop} (W : Wk p l e R s m args below meth c Z a0 EL own sf T h k n) (w1 : (Cond.methodLink own index y).before a0 Z = true) (w2 : (Cond.instanceMethod y).before a0 Z = true) (w3 : (Cond.selects y.cls y y).before a0 Z = true) (w5 : (Cond.privateMethod y).before a0 Z = true) (w6 : (Cond.initialized y.cls).before a0 Z = true) (w4 : (Cond.code y bytes maxL ret).before a0 Z = true) (hy : y.cls ≠ "java/lang/invoke/MethodHandle" ∧ y.cls ≠ "java/lang/invoke/VarHandle") (E : Exa Z h a C)
    (hM : Con l Z EL sf' y bytes maxL ret [] rm as' h Qc) (hsf : ∀ x ∈ sf', x ∈ sf) (hf : rm.frames + 1 ≤ R.frames) (hl : Wt + (maxL + 11) + rm.locals ≤ R.locals) (ek : k + rm.cells = k') (en : n + rm.slots = n') (hk : k' ≤ R.cells) (hn : n' ≤ R.slots) (hsz : Ls.size = c.maxLocals) (hlen : ∀ sig, parseMethodDescriptor y.desc = some sig → argsL.length = sig.parameters.length) (hst : stk = argsL.reverse ++ .ref a :: rest) (has : (.ref a :: argsL).toArray = as') (hW : (rest.map fun v => v.category).sum ≤ Wt) (hd : decode c.code pc = .ok (.invokevirtual index, 3))
    (go : ∀ v T' h', Wk p l e R s m args below meth c Z a0 EL own sf T' h' k' n' → Qc v h' → Go p e below s Z EL rc rs Q (T'.setTop (mkF m (pc + 3) Ls (v.toList ++ rest)))) : Go p e below s Z EL rc rs Q (T.setTop (mkF m pc Ls stk)) := by
  obtain ⟨u1, u2, u3, u4, vm0, k0, L, X, rfl, r2, r3, r4, r5, r6, r7, r8⟩ := W
  obtain ⟨cq, q1, q2⟩ := E.cell
  obtain ⟨v, vm₁, B, -, X', hS, hg, ⟨Lc, q⟩, st⟩ := X.privateBackS u1 (y := y) r5 (mvT (s := s.setVm vm0) r4 w1) (mvT (s := s.setVm vm0) r4 w2) (mvT (s := s.setVm vm0) r4 w3) (Cond.privateMethod_at (mvP (s := s.setVm vm0) r4 w5 (args := #[]))) (mvT (s := s.setVm vm0) r4 w4) hy (backK (Wt := Wt) hM r4 w4 w6 hf hl u3 r6.1.1 fun x hx => r7 x (hsf x hx)) (g := mkF m pc Ls stk) rfl hsz (Steps.refl _) (a := a) q1 q2 (argsL := argsL) (rest := rest) hlen hst (by show 2 * 0 + _ ≤ _; omega) hd (fun _ _ => ⟨has, rfl, by rw [ek]; exact hk, by rw [en]; exact hn⟩)
  exact Go.of st (go v B.U B.U.heap (Wk.came u1 u2 u3 u4 X' hS hg q r2 r3 r4 r5 r6 r7 r8 ek en) q.1.1)
theorem Wk.ldcI {index : Nat} {v : Int32} (W : Wk p l e R s m args below meth c Z a0 EL own sf T h k n) (w : (Cond.constant own index v).before a0 Z = true) (hd : decode c.code pc = .ok (.ldc index, 2)) (go : Go p e below s Z EL rc rs Q (T.setTop (mkF m (pc + 2) Ls (.int v :: stk)))) : Go p e below s Z EL rc rs Q (T.setTop (mkF m pc Ls stk)) := by
  obtain ⟨w1, w2, w3, w4, vm0, k0, L, X, r1, r2, r3, r4, r5, r⟩ := W
  exact Go.by (X.ldcInt w1 r5 (mvT (s := s.setVm vm0) r4 w) (g := mkF m pc Ls stk) rfl hd) go
theorem Wk.ldcJ {index : Nat} {v : Int64} (W : Wk p l e R s m args below meth c Z a0 EL own sf T h k n) (w : (Cond.constantLong own index v).before a0 Z = true) (hd : decode c.code pc = .ok (.ldc2_w index, 3)) (go : Go p e below s Z EL rc rs Q (T.setTop (mkF m (pc + 3) Ls (.long v :: stk)))) : Go p e below s Z EL rc rs Q (T.setTop (mkF m pc Ls stk)) := by
  obtain ⟨w1, w2, w3, w4, vm0, k0, L, X, r1, r2, r3, r4, r5, r⟩ := W
  exact Go.by (X.ldc2Long w1 r5 (mvT (s := s.setVm vm0) r4 w) (g := mkF m pc Ls stk) rfl hd) go
theorem Wk.cloneA {index Wt cap : Nat} {ad : String} {a : Addr} {kA : ClassId} {ty : FieldType} {z : Int32} {vs : List Value} {dv : Value} (W : Wk p l e R s m args below meth c Z a0 EL own sf T h k n) (w1 : (Cond.methodLink own index ⟨ad, "clone", "()Ljava/lang/Object;"⟩).before a0 Z = true) (w2 : (Cond.sameMethod ad "java/lang/Object" "clone" "()Ljava/lang/Object;").before a0 Z = true) (w3 : (Cond.native ⟨"java/lang/Object", "clone", "()Ljava/lang/Object;"⟩).before a0 Z = true)
    (w4 : (Cond.instanceMethod ⟨"java/lang/Object", "clone", "()Ljava/lang/Object;"⟩).before a0 Z = true) (w5 : (Cond.selects ad ⟨ad, "clone", "()Ljava/lang/Object;"⟩ ⟨"java/lang/Object", "clone", "()Ljava/lang/Object;"⟩).before a0 Z = true) (w6 : (Cond.castable ad "java/lang/Cloneable").before a0 Z = true) (F : Arv Z h a kA ty z vs dv) (E : Exa Z h a ad) (hsz : Ls.size = c.maxLocals) (hd : decode c.code pc = .ok (.invokevirtual index, 3))
    (hf : 1 ≤ R.frames) (hW : (rest.map fun v => v.category).sum ≤ Wt) (hl : Wt + 14 ≤ R.locals) (hcap : z.toNatClampNeg ≤ cap) (ek : k + 1 = k') (en : n + cap = n') (hk : k' ≤ R.cells) (hn : n' ≤ R.slots)
    (go : ∀ T' h' x, Wk p l e R s m args below meth c Z a0 EL own (x :: sf) T' h' k' n' → Ext h h' → h.size = x → Z.heap.size ≤ x → Arv Z h' x kA ty z vs dv → Exa Z h' x ad → Go p e below s Z EL rc rs Q (T'.setTop (mkF m (pc + 3) Ls (.ref x :: rest)))) : Go p e below s Z EL rc rs Q (T.setTop (mkF m pc Ls (.ref a :: rest))) := by
  have hO := W.old
  obtain ⟨u1, u2, u3, u4, vm0, k0, L, X, r1, r2, r3, r4, r5, r6, r7, r8⟩ := W
  subst ek en
  obtain ⟨T', h', X', e', E', A, D, st⟩ := cloneH X u1 r4 r5 w1 w2 w3 w4 w5 w6 r1 F.arh E (g := mkF m pc Ls (.ref a :: rest)) rfl hsz rfl hd hf (W := Wt) (by show 2 * 0 + _ ≤ _; omega) hl hcap hk hn
  exact Go.by st (go T' h' _ (Wk.grew u1 u2 u3 u4 X' e' E' D.lt (Nat.le_refl _) r2 r3 r4 r5 r6 r7 r8) E' rfl hO.1 A D)
/-- the terms elem t i, elem t (i + 1), .. hold vs -/
def HasE (args : Array Value) (Z : State) (t : Term) : Nat → List Value → Prop
  | _, [] => True
  | i, v :: vs => (Term.elem t (.int (Int32.ofNat i))).eval args Z none [] Z = some v ∧ HasE args Z t (i + 1) vs
theorem clampN {i : Nat} (h : i < 2 ^ 31) : (Int32.ofNat i).toNatClampNeg = i := by
  have := Int32.toInt_ofNat_small h
  rw [Int32.toNatClampNeg, this]; simp
theorem HasE.has {t : Term} {a : Addr} {cl : Cell} (ev : t.eval args Z none [] Z = some (.ref a)) (hc : Z.heap[a]? = some cl) : ∀ (vs : List Value) (i : Nat), i + vs.length < 2 ^ 31 → HasE args Z t i vs → HasL cl i vs
  | [], i, _, _ => trivial
  | v :: vs, i, hi, H => by
    have hl : (v :: vs).length = vs.length + 1 := rfl
    refine ⟨?_, HasE.has ev hc vs (i + 1) (by omega) H.2⟩
    have q := (elem_in H.1 ev (Term.int_eval _) hc).2
    rwa [clampN (by omega)] at q
theorem arv_of {t : Term} {a : Addr} {ty : FieldType} {z : Int32} {vs : List Value} {dv : Value} (hf : Fit Z) (ev : t.eval args Z none [] Z = some (.ref a)) (hA : (Cond.arrayOf t ty).value args Z none Z [] = some true) (hl : (Term.length t).eval args Z none [] Z = some (.int z)) (hz : ¬ z < 0) (hn : z.toNatClampNeg = vs.length) (hb : vs.length < 2 ^ 31) (H : HasE args Z t 0 vs) : ∃ k, Arv Z Z.heap a k ty z vs dv := by
  obtain ⟨cl, A⟩ := Arr.start ev hA
  have h1 := A.fin (Vm.Alike.refl _)
  have h31 := Jvm.Free.SBG.length_lt ev h1 hl
  have e1 := len_f ev h1 h31
  have e2 : cl.slots.size.toInt32 = z := by simpa using Option.some.inj (e1.symm.trans hl)
  exact ⟨cl.cls, Arv.start hf A h31 e2 hz hn (HasE.has ev A.1 vs 0 (by omega) H)⟩
theorem Wk.callSr {y : MethodName} {index Wt maxL : Nat} {bytes : ByteArray} {ret : Option FieldType} {rm : Room} {as' : Array Value} {sf' : List Addr} {argsL : List Value} {P : Option Value → Prop} (W : Wk p l e R s m args below meth c Z a0 EL own sf T h k n) (w1 : (Cond.methodLink own index y).before a0 Z = true) (w2 : (Cond.static y).before a0 Z = true) (w3 : (Cond.initialized y.cls).before a0 Z = true) (w4 : (Cond.code y bytes maxL ret).before a0 Z = true) (hy : y.cls ≠ "java/lang/invoke/MethodHandle" ∧ y.cls ≠ "java/lang/invoke/VarHandle")
    (hM : Con l Z EL sf' y bytes maxL ret [] rm as' h (fun v h' => P v ∧ h' = h)) (hsf : ∀ x ∈ sf', x ∈ sf) (hf : rm.frames + 1 ≤ R.frames) (hl : Wt + (maxL + 11) + rm.locals ≤ R.locals) (ek : k + rm.cells = k') (en : n + rm.slots = n') (hk : k' ≤ R.cells) (hn : n' ≤ R.slots) (hsz : Ls.size = c.maxLocals) (hlen : ∀ sig, parseMethodDescriptor y.desc = some sig → argsL.length = sig.parameters.length) (hst : stk = argsL.reverse ++ rest) (has : argsL.toArray = as') (hW : (rest.map fun v => v.category).sum ≤ Wt) (hd : decode c.code pc = .ok (.invokestatic index, 3))
    (go : ∀ v T', Wk p l e R s m args below meth c Z a0 EL own sf T' h k' n' → P v → Go p e below s Z EL rc rs Q (T'.setTop (mkF m (pc + 3) Ls (v.toList ++ rest)))) : Go p e below s Z EL rc rs Q (T.setTop (mkF m pc Ls stk)) :=
  W.callS w1 w2 w3 w4 hy hM hsf hf hl ek en hk hn hsz hlen hst has hW hd fun v T' h' W' ⟨q1, q2⟩ => by subst q2; exact go v T' W' q1
end Kit
section KitStr
variable {p : Program} {l : Launch} {e : Env} {R : Room} {s : State} {m : MethodId} {args : Array Value} {below : List Frame} {meth : Method} {c : Code} {Z : State} {a0 : Array Value} {EL : List (String × Nat)} {own : String} {sf : List Addr} {T : State} {h h' h0 : Heap} {k n k' n' rc rs pc : Nat} {Ls : Array Slot} {stk rest : List Value} {Q : Option Value → Heap → Prop} {a x : Addr} {cs ds : List Int32}
/-- the object at a is a String that spells cs -/
def Str (Z : State) (h : Heap) (a : Addr) (cs : List Int32) : Prop := ∃ (t : Addr) (kb : ClassId) (cd N2 : Int32) (vs : List Value), Exa Z h a "java/lang/String" ∧ Fld Z h a "java/lang/String" "value" "[B" (.ref t) ∧ Fld Z h a "java/lang/String" "coder" "B" (.int cd) ∧ Arv Z h t kb .byte N2 vs (.int 0) ∧ StrChars.Road.CodA cs cd N2 vs ∧ (∀ c ∈ cs, ¬ c < 0 ∧ ¬ (65535 : Int32) < c)
theorem Str.ext (S : Str Z h a cs) (E : Ext h h') : Str Z h' a cs := by
  obtain ⟨t, kb, cd, N2, vs, s1, s2, s3, s4, s5, s6⟩ := S; exact ⟨t, kb, cd, N2, vs, s1.ext E, s2.ext E, s3.ext E, s4.ext E, s5, s6⟩
theorem Str.exa (S : Str Z h a cs) : Exa Z h a "java/lang/String" := by obtain ⟨t, kb, cd, N2, vs, s1, -⟩ := S; exact s1
theorem Str.lt (S : Str Z h a cs) : a < h.size := S.exa.lt
theorem Str.keep {C : String} {N : Nat} (S : Str Z h a cs) (K : Keep h h' [x]) (E : Exa Z h x C) (wi : (Cond.instantiable C N).before a0 Z = true) (ne : a ≠ x) : Str Z h' a cs := by
  obtain ⟨t, kb, cd, N2, vs, s1, s2, s3, s4, s5, s6⟩ := S
  exact ⟨t, kb, cd, N2, vs, s1.keep K, s2.keep K (ninS ne nin0), s3.keep K (ninS ne nin0), s4.keep K (ninS (Ne.symm (E.neArv s4 wi)) nin0), s5, s6⟩
theorem Str.wr {C : String} {N sl : Nat} {v : Value} (S : Str Z h a cs) (W : Wr h h' x sl v) (E : Exa Z h x C) (wi : (Cond.instantiable C N).before a0 Z = true) (ne : a ≠ x) : Str Z h' a cs := S.keep (Keep.of_wr W) E wi ne
theorem Ext.trans' {h h1 h2 : Heap} (A : Ext h h1) (B : Ext h1 h2) : Ext h h2 := ⟨Nat.le_trans A.1 B.1, fun a c q => B.2 a c (A.2 a c q)⟩
theorem Ext.refl' (h : Heap) : Ext h h := ⟨Nat.le_refl _, fun _ _ q => q⟩
theorem Ext.keep' {h h1 h2 : Heap} {ws : List Addr} (A : Ext h h1) (K : Keep h1 h2 ws) (q : ∀ x ∈ ws, h.size ≤ x) : Ext h h2 := ⟨Nat.le_trans A.1 K.1, fun a c r => K.2.1 a c (A.2 a c r) fun z => absurd (Array.getElem?_eq_some_iff.mp r).1 (Nat.not_lt.mpr (q a z))⟩
theorem Ext.wr' {h h1 h2 : Heap} {x : Addr} {sl : Nat} {v : Value} (A : Ext h h1) (W : Wr h1 h2 x sl v) (q : h.size ≤ x) : Ext h h2 := Ext.keep' A (Keep.of_wr W) (allS q all0)
theorem Wk.kept {ws : List Addr} {T' : State} {L : List Loc} {vm0 : Vm} {k0 : Nat} (hxm : p.tables.exec = Jvm.exec) (hl : meth.locks = false) (hEW : EW Z a0 EL) (hE : Ext Z.heap s.heap) (X' : Stand p l e R (s.setVm vm0) m args below meth c T' L k' n') (e' : T'.heap = h') (K : Keep h h' ws) (hws : ∀ x ∈ ws, x ∈ sf) (r2 : s.Since vm0 k0) (r3 : k0 ≤ h.size) (r4 : Z.Warmed39 vm0) (r5 : vm0.findClass own = some m.cls) (r6 : CHrN Z EL s.vm s.heap vm0 h) (r7 : ∀ x ∈ sf, x < h.size ∧ Safe Z EL vm0 h x) (r8 : Fr Z.heap.size L) :
    Wk p l e R s m args below meth c Z a0 EL own sf T' h' k' n' :=
  ⟨hxm, hl, hEW, hE, vm0, k0, L, X', e', r2, Nat.le_trans r3 K.1, r4, r5, r6.trans (CHrN.keep K (fun x hx => (r7 x (hws x hx)).2) r6.1.1), fun y hy => ⟨Nat.lt_of_lt_of_le (r7 y hy).1 K.1, Safe.keep K (fun x hx => (r7 x (hws x hx)).2) r6.1.1 (r7 y hy).2⟩, r8⟩
theorem pdCs : parseMethodDescriptor "([C)V" = some ⟨[(.array .char)], none⟩ := by decide +kernel
/-- new String(chars): 1 to 4000 chars, each below 256 -/
theorem Wk.strV {index Wt q : Nat} {b : Addr} {kC : ClassId} {dv v0 c0 : Value} {z N : Int32} (W : Wk p l e R s m args below meth c Z a0 EL own sf T h k n) (hws : ∀ d ∈ StrChars.Road.words, d.before a0 Z = true) (wi : (Cond.instantiable "java/lang/String" 4).before a0 Z = true) (w1 : (Cond.methodLink own index ⟨"java/lang/String", "<init>", "([C)V"⟩).before a0 Z = true) (w2 : (Cond.instanceMethod ⟨"java/lang/String", "<init>", "([C)V"⟩).before a0 Z = true)
    (E : Exa Z h x "java/lang/String") (V : Fld Z h x "java/lang/String" "value" "[B" v0) (C : Fld Z h x "java/lang/String" "coder" "B" c0) (K : Arv Z h b kC .char N (cs.map Value.int) dv) (S : Sta Z h "java/lang/String" "COMPACT_STRINGS" "Z" (.int z)) (hz : ¬ z = 0) (hq : cs.length = q) (hN : N = Int32.ofNat q) (l0 : 0 < q) (l2 : q ≤ 4000) (hp : ∀ c ∈ cs, ¬ c < 0 ∧ ¬ (255 : Int32) < c) (hx : Z.heap.size ≤ x) (hs : x ∈ sf)
    (hf : 4 ≤ R.frames) (hl : Wt + 65 ≤ R.locals) (ek : k + 1 = k') (en : n + q = n') (hk : k' ≤ R.cells) (hn : n' ≤ R.slots) (hsz : Ls.size = c.maxLocals) (hW : (rest.map fun v => v.category).sum ≤ Wt) (hd : decode c.code pc = .ok (.invokespecial index, 3))
    (go : ∀ T' h', Wk p l e R s m args below meth c Z a0 EL own sf T' h' k' n' → Keep h h' [x] → Str Z h' x cs → Go p e below s Z EL rc rs Q (T'.setTop (mkF m (pc + 3) Ls rest))) : Go p e below s Z EL rc rs Q (T.setTop (mkF m pc Ls (.ref b :: .ref x :: rest))) := by
  have hO := W.old
  obtain ⟨u1, u2, u3, u4, vm0, k0, L, X, rfl, r2, r3, r4, r5, r6, r7, r8⟩ := W
  obtain ⟨v, vm₁, ⟨T', L', k1, n1⟩, -, X', ⟨Lc, hQ, l', y', z'⟩, st⟩ := X.specialBack u1 (y := (⟨"java/lang/String", "<init>", "([C)V"⟩ : MethodName)) rfl r5 (mvT (s := s.setVm vm0) r4 w1) (mvT (s := s.setVm vm0) r4 w2) (mvT (s := s.setVm vm0) r4 (hws _ (List.mem_cons_self ..))) (by decide)
    (StrChars.Road.backV (W := Wt) (s := s.setVm vm0) r4 hws wi (bs := cs.map (fun c => c.toInt8.toInt32)) hx hO.1 E V C K S hz hq hN l0 l2 hp rfl hf hl) (g := mkF m pc Ls (.ref b :: .ref x :: rest)) rfl hsz (Steps.refl _) (a := x) (argsL := [.ref b]) (rest := rest) (lenOf pdCs rfl) rfl (by show 2 * 0 + _ ≤ _; omega) hd (fun _ _ => ⟨rfl, rfl, by rw [ek]; exact hk, by rw [en]; exact hn⟩)
  dsimp only [Pt.U, Pt.locs, Pt.cells, Pt.slots] at X' l' y' z' st hQ
  subst l' y' z'
  obtain ⟨rfl, N', K', g1, g2, t, kb, -, -, -, g3, g4⟩ := hQ
  rw [ek, en] at X'
  subst hq hN
  exact Go.of st (go T' T'.heap (Wk.kept u1 u2 u3 u4 X' rfl K' (allS hs all0) r2 r3 r4 r5 r6 r7 (r8.app N')) K' ⟨t, kb, 0, _, _, g1, g3, g2, g4, StrChars.Road.codOf rfl (fun c hc => (hp c hc).2), fun c hc => ⟨(hp c hc).1, fun q => (hp c hc).2 (by rw [Int32.lt_iff_toInt_lt] at q ⊢; have e1 : (65535 : Int32).toInt = 65535 := rfl; have e2 : (255 : Int32).toInt = 255 := rfl; omega)⟩⟩)
/-! casts -/
theorem Wk.castY {index : Nat} {K : String} (W : Wk p l e R s m args below meth c Z a0 EL own sf T h k n) (w : (Cond.classLink own index K).before a0 Z = true) (F : Ins Z h a K true) (hd : decode c.code pc = .ok (.checkcast index, 3))
    (go : ∀ T', Wk p l e R s m args below meth c Z a0 EL own sf T' h k n → Go p e below s Z EL rc rs Q (T'.setTop (mkF m (pc + 3) Ls (.ref a :: rest)))) : Go p e below s Z EL rc rs Q (T.setTop (mkF m pc Ls (.ref a :: rest))) := by
  obtain ⟨w1, w2, w3, w4, vm0, k0, L, X, r1, r2, r3, r4, r5, r⟩ := W
  obtain ⟨T', X', e', st⟩ := Jvm.RoadKit.castY X w1 r4 r5 w r1 F (g := mkF m pc Ls (.ref a :: rest)) rfl rfl hd
  exact Go.by st (go T' ⟨w1, w2, w3, w4, vm0, k0, L, X', e', r2, r3, r4, r5, r⟩)
theorem Wk.instY {index : Nat} {K : String} (W : Wk p l e R s m args below meth c Z a0 EL own sf T h k n) (w : (Cond.classLink own index K).before a0 Z = true) (F : Ins Z h a K true) (hd : decode c.code pc = .ok (.instanceof index, 3))
    (go : ∀ T', Wk p l e R s m args below meth c Z a0 EL own sf T' h k n → Go p e below s Z EL rc rs Q (T'.setTop (mkF m (pc + 3) Ls (.int 1 :: rest)))) : Go p e below s Z EL rc rs Q (T.setTop (mkF m pc Ls (.ref a :: rest))) := by
  obtain ⟨w1, w2, w3, w4, vm0, k0, L, X, r1, r2, r3, r4, r5, r⟩ := W
  obtain ⟨T', X', e', st⟩ := Jvm.RoadKit.instY X w1 r4 r5 w r1 F (g := mkF m pc Ls (.ref a :: rest)) rfl rfl hd
  exact Go.by st (go T' ⟨w1, w2, w3, w4, vm0, k0, L, X', e', r2, r3, r4, r5, r⟩)
theorem Wk.instNo {index : Nat} {K C : String} (W : Wk p l e R s m args below meth c Z a0 EL own sf T h k n) (w : (Cond.classLink own index K).before a0 Z = true) (E : Exa Z h a C) (F : ∃ c t, Z.vm.findClass C = some c ∧ Z.vm.findClass K = some t ∧ Z.vm.assignable c t = false) (hd : decode c.code pc = .ok (.instanceof index, 3))
    (go : ∀ T', Wk p l e R s m args below meth c Z a0 EL own sf T' h k n → Go p e below s Z EL rc rs Q (T'.setTop (mkF m (pc + 3) Ls (.int 0 :: rest)))) : Go p e below s Z EL rc rs Q (T.setTop (mkF m pc Ls (.ref a :: rest))) := by
  obtain ⟨w1, w2, w3, w4, vm0, k0, L, X, r1, r2, r3, r4, r5, r⟩ := W
  obtain ⟨T', X', e', st⟩ := Jvm.RoadKit.instNo X w1 r4 r5 w r1 E F (g := mkF m pc Ls (.ref a :: rest)) rfl rfl hd
  exact Go.by st (go T' ⟨w1, w2, w3, w4, vm0, k0, L, X', e', r2, r3, r4, r5, r⟩)
theorem Wk.instNull {index : Nat} (W : Wk p l e R s m args below meth c Z a0 EL own sf T h k n) (hd : decode c.code pc = .ok (.instanceof index, 3)) (go : Go p e below s Z EL rc rs Q (T.setTop (mkF m (pc + 3) Ls (.int 0 :: rest)))) : Go p e below s Z EL rc rs Q (T.setTop (mkF m pc Ls (.null :: rest))) := by
  obtain ⟨w1, w2, w3, w4, vm0, k0, L, X, r⟩ := W
  exact Go.by (X.instanceofNull w1 (g := mkF m pc Ls (.null :: rest)) rfl rfl hd) go
theorem Wk.castNull {index : Nat} (W : Wk p l e R s m args below meth c Z a0 EL own sf T h k n) (hd : decode c.code pc = .ok (.checkcast index, 3)) (go : Go p e below s Z EL rc rs Q (T.setTop (mkF m (pc + 3) Ls (.null :: rest)))) : Go p e below s Z EL rc rs Q (T.setTop (mkF m pc Ls (.null :: rest))) := by
  obtain ⟨w1, w2, w3, w4, vm0, k0, L, X, r⟩ := W
  exact Go.by (X.checkcastNull w1 (g := mkF m pc Ls (.null :: rest)) rfl rfl hd) go
/-! arrays -/
theorem Wk.alen {kA : ClassId} {ty : FieldType} {z : Int32} {vs : List Value} {dv : Value} (W : Wk p l e R s m args below meth c Z a0 EL own sf T h k n) (A : Arv Z h a kA ty z vs dv) (hd : decode c.code pc = .ok (.arraylength, 1)) (go : Go p e below s Z EL rc rs Q (T.setTop (mkF m (pc + 1) Ls (.int z :: rest)))) : Go p e below s Z EL rc rs Q (T.setTop (mkF m pc Ls (.ref a :: rest))) := by
  obtain ⟨w1, w2, w3, w4, vm0, k0, L, X, rfl, r2, r3, r4, r⟩ := W
  obtain ⟨cl, A1, -, S, N, -, -⟩ := A
  refine Go.by (X.arraylength w1 A1.1 (State.isArrayOf_alike (T := s.setVm vm0) r4.alike A1.2.1) (g := mkF m pc Ls (.ref a :: rest)) rfl rfl hd) ?_
  rw [len_of S N]; exact go
theorem inA {kA : ClassId} {ty : FieldType} {z j : Int32} {vs : List Value} {dv v : Value} (A : Arv Z h a kA ty z vs dv) (hj : ¬ j < 0 ∧ j < z) (hv : vs.getD j.toNatClampNeg dv = v) : ∃ cl : Cell, RoadKit.Arr Z h a cl ty ∧ ¬ (j < 0 ∨ cl.slots.size ≤ j.toNatClampNeg) ∧ cl.slots[j.toNatClampNeg]? = some v ∧ fits ty v = true := by
  obtain ⟨cl, A1, -, S, N, H, G⟩ := A
  have hi := inb_of S hj
  exact ⟨cl, A1, hi, H.at hi hv, hv ▸ G _ (Nat.lt_of_not_le fun y => hi (Or.inr y))⟩
theorem Wk.cald {kA : ClassId} {z j : Int32} {vs : List Value} {dv v : Value} (W : Wk p l e R s m args below meth c Z a0 EL own sf T h k n) (A : Arv Z h a kA .char z vs dv) (hj : ¬ j < 0 ∧ j < z) (hv : vs.getD j.toNatClampNeg dv = v) (hd : decode c.code pc = .ok (.caload, 1)) (go : Go p e below s Z EL rc rs Q (T.setTop (mkF m (pc + 1) Ls (v :: rest)))) : Go p e below s Z EL rc rs Q (T.setTop (mkF m pc Ls (.int j :: .ref a :: rest))) := by
  obtain ⟨w1, w2, w3, w4, vm0, k0, L, X, rfl, r2, r3, r4, r⟩ := W
  obtain ⟨cl, A1, hi, hat, -⟩ := inA A hj hv
  exact Go.by (X.caload w1 (j := j) (v := v) A1.1 (State.isArrayOf_alike (T := s.setVm vm0) r4.alike A1.2.1) A1.2.2 hi hat (g := mkF m pc Ls (.int j :: .ref a :: rest)) rfl rfl hd) go
theorem Wk.bald {kA : ClassId} {z j : Int32} {vs : List Value} {dv v : Value} (W : Wk p l e R s m args below meth c Z a0 EL own sf T h k n) (A : Arv Z h a kA .byte z vs dv) (hj : ¬ j < 0 ∧ j < z) (hv : vs.getD j.toNatClampNeg dv = v) (hd : decode c.code pc = .ok (.baload, 1)) (go : Go p e below s Z EL rc rs Q (T.setTop (mkF m (pc + 1) Ls (v :: rest)))) : Go p e below s Z EL rc rs Q (T.setTop (mkF m pc Ls (.int j :: .ref a :: rest))) := by
  obtain ⟨w1, w2, w3, w4, vm0, k0, L, X, rfl, r2, r3, r4, r⟩ := W
  obtain ⟨cl, A1, hi, hat, -⟩ := inA A hj hv
  exact Go.by (X.baloadBytes w1 (j := j) (v := v) A1.1 (State.isArrayOf_alike (T := s.setVm vm0) r4.alike A1.2.1) A1.2.2 hi hat (g := mkF m pc Ls (.int j :: .ref a :: rest)) rfl rfl hd) go
theorem Wk.aald {kA : ClassId} {ty : FieldType} {z j : Int32} {vs : List Value} {dv v : Value} (W : Wk p l e R s m args below meth c Z a0 EL own sf T h k n) (A : Arv Z h a kA ty z vs dv) (hty : ty.isReference = true) (hj : ¬ j < 0 ∧ j < z) (hv : vs.getD j.toNatClampNeg dv = v) (hd : decode c.code pc = .ok (.aaload, 1)) (go : Go p e below s Z EL rc rs Q (T.setTop (mkF m (pc + 1) Ls (v :: rest)))) : Go p e below s Z EL rc rs Q (T.setTop (mkF m pc Ls (.int j :: .ref a :: rest))) := by
  obtain ⟨w1, w2, w3, w4, vm0, k0, L, X, rfl, r2, r3, r4, r⟩ := W
  obtain ⟨cl, A1, hi, hat, -⟩ := inA A hj hv
  exact Go.by (X.aaload w1 (j := j) (v := v) A1.1 (State.isArrayOf_alike (T := s.setVm vm0) r4.alike A1.2.1) hty A1.2.2 hi hat (g := mkF m pc Ls (.int j :: .ref a :: rest)) rfl rfl hd) go
theorem Wk.cast_ {kA : ClassId} {z j v v' : Int32} {vs : List Value} {dv : Value} {i : Nat} (W : Wk p l e R s m args below meth c Z a0 EL own sf T h k n) (A : Arv Z h a kA .char z vs dv) (hj : ¬ j < 0 ∧ j < z) (hi : j.toNatClampNeg = i) (hlt : i < vs.length) (hv : nar .char v = v') (ha : Z.heap.size ≤ a) (hs : a ∈ sf) (hd : decode c.code pc = .ok (.castore, 1))
    (go : ∀ T' h', Wk p l e R s m args below meth c Z a0 EL own sf T' h' k n → Wr h h' a j.toNatClampNeg (.int v') → Arv Z h' a kA .char z (vs.set i (.int v')) dv → Go p e below s Z EL rc rs Q (T'.setTop (mkF m (pc + 1) Ls rest))) : Go p e below s Z EL rc rs Q (T.setTop (mkF m pc Ls (.int v :: .int j :: .ref a :: rest))) := by
  subst hv
  obtain ⟨w1, w2, w3, w4, vm0, k0, L, X, r1, r2, r3, r4, r5, r6, r7, r8⟩ := W
  obtain ⟨cl, A1, A2, S, N, H, G⟩ := A
  obtain ⟨T', h', X', e', W', st⟩ := stC X w1 r4 r1 A1 (j := j) (inb_of S hj) (g := mkF m pc Ls (.int v :: .int j :: .ref a :: rest)) rfl rfl hd
  exact Go.by st (go T' h' (Wk.wrote w1 w2 w3 w4 X' e' W' r2 r3 r4 r5 r6 r7 r8 ha hs) W' (Arv.set A1 A2 S N H G (fits_nar_char _) W' i hi hlt))
theorem Wk.bast {kA : ClassId} {z j v v' : Int32} {vs : List Value} {dv : Value} {i : Nat} (W : Wk p l e R s m args below meth c Z a0 EL own sf T h k n) (A : Arv Z h a kA .byte z vs dv) (hj : ¬ j < 0 ∧ j < z) (hi : j.toNatClampNeg = i) (hlt : i < vs.length) (hv : nar .byte v = v') (ha : Z.heap.size ≤ a) (hs : a ∈ sf) (hd : decode c.code pc = .ok (.bastore, 1))
    (go : ∀ T' h', Wk p l e R s m args below meth c Z a0 EL own sf T' h' k n → Wr h h' a j.toNatClampNeg (.int v') → Arv Z h' a kA .byte z (vs.set i (.int v')) dv → Go p e below s Z EL rc rs Q (T'.setTop (mkF m (pc + 1) Ls rest))) : Go p e below s Z EL rc rs Q (T.setTop (mkF m pc Ls (.int v :: .int j :: .ref a :: rest))) := by
  subst hv
  obtain ⟨w1, w2, w3, w4, vm0, k0, L, X, r1, r2, r3, r4, r5, r6, r7, r8⟩ := W
  obtain ⟨cl, A1, A2, S, N, H, G⟩ := A
  obtain ⟨T', h', X', e', W', st⟩ := stB X w1 r4 r1 A1 (j := j) (inb_of S hj) (g := mkF m pc Ls (.int v :: .int j :: .ref a :: rest)) rfl rfl hd
  exact Go.by st (go T' h' (Wk.wrote w1 w2 w3 w4 X' e' W' r2 r3 r4 r5 r6 r7 r8 ha hs) W' (Arv.set A1 A2 S N H G (fits_nar_byte _) W' i hi hlt))
theorem Wk.aast {kA : ClassId} {ty : FieldType} {z j : Int32} {v : Value} {vs : List Value} {dv : Value} {i : Nat} (W : Wk p l e R s m args below meth c Z a0 EL own sf T h k n) (A : Arv Z h a kA ty z vs dv) (hty : ty.isReference = true) (hj : ¬ j < 0 ∧ j < z) (hi : j.toNatClampNeg = i) (hlt : i < vs.length) (F : Sto Z h a v) (hv : fits ty v = true) (ha : Z.heap.size ≤ a) (hs : a ∈ sf) (hd : decode c.code pc = .ok (.aastore, 1))
    (go : ∀ T' h', Wk p l e R s m args below meth c Z a0 EL own sf T' h' k n → Wr h h' a j.toNatClampNeg v → Arv Z h' a kA ty z (vs.set i v) dv → Go p e below s Z EL rc rs Q (T'.setTop (mkF m (pc + 1) Ls rest))) : Go p e below s Z EL rc rs Q (T.setTop (mkF m pc Ls (v :: .int j :: .ref a :: rest))) := by
  obtain ⟨w1, w2, w3, w4, vm0, k0, L, X, r1, r2, r3, r4, r5, r6, r7, r8⟩ := W
  obtain ⟨cl, A1, A2, S, N, H, G⟩ := A
  obtain ⟨T', h', X', e', W', st⟩ := stR X w1 r4 r1 A1 (j := j) (inb_of S hj) hty F (g := mkF m pc Ls (v :: .int j :: .ref a :: rest)) rfl rfl hd
  exact Go.by st (go T' h' (Wk.wrote w1 w2 w3 w4 X' e' W' r2 r3 r4 r5 r6 r7 r8 ha hs) W' (Arv.set A1 A2 S N H G hv W' i hi hlt))
/-- a String at the start, by the sheet's words -/
theorem str_of {t : Term} (hf : Fit Z) (hx : (Cond.exactly t "java/lang/String").value args Z none Z [] = some true) (hcd : (Cond.eq (.field t "java/lang/String" "coder" "B") (.int 0)).value args Z none Z [] = some true) (hA : (Cond.arrayOf (.field t "java/lang/String" "value" "[B") .byte).value args Z none Z [] = some true) (hl : (Cond.eq (.length (.field t "java/lang/String" "value" "[B")) (.int (Int32.ofNat cs.length))).value args Z none Z [] = some true) (hn : cs.length < 2 ^ 31) (H : HasE args Z (.field t "java/lang/String" "value" "[B") 0 (cs.map fun c => Value.int (StrChars.lo8 c))) (hb : ∀ c ∈ cs, ¬ c < 0 ∧ ¬ (255 : Int32) < c ∧ ¬ (65535 : Int32) < c) : ∃ a, t.eval args Z none [] Z = some (.ref a) ∧ Str Z Z.heap a cs := by
  obtain ⟨a, ea⟩ := exa_v hx
  obtain ⟨b, eb⟩ := arr_v hA
  have ec := Cond.eq_int (Cond.before_iff.mpr hcd) rfl
  have el := Cond.eq_int (Cond.before_iff.mpr hl) rfl
  obtain ⟨kb, K⟩ := arv_of (dv := .int 0) hf eb hA el (by
    intro q
    rw [Int32.lt_iff_toInt_lt, Int32.toInt_ofNat_small hn] at q
    have e0 : (0 : Int32).toInt = 0 := rfl
    omega) (by rw [clampN hn, List.length_map]) (by rw [List.length_map]; exact hn) H
  exact ⟨a, ea, b, kb, 0, _, _, Exa.start ea hx, Fld.start (by rw [← fld_at ea]; exact eb), Fld.start (by rw [← fld_at ea]; exact ec), K, Or.inl ⟨rfl, rfl, rfl, fun c hc => (hb c hc).2.1⟩, fun c hc => ⟨(hb c hc).1, (hb c hc).2.2⟩⟩
end KitStr
section KitStrCh
variable {p : Program} {l : Launch} {e : Env} {R : Room} {s : State} {m : MethodId} {args : Array Value} {below : List Frame} {meth : Method} {c : Code} {Z : State} {a0 : Array Value} {EL : List (String × Nat)} {own : String} {sf : List Addr} {T : State} {h h' h0 : Heap} {k n k' n' rc rs pc : Nat} {Ls : Array Slot} {stk rest : List Value} {Q : Option Value → Heap → Prop} {a x y : Addr} {cs ds : List Int32}
theorem pdCh : parseMethodDescriptor "(I)C" = some ⟨[.int], some .char⟩ := by decide +kernel
/-- s.charAt(i) of a String of chars below 256 -/
theorem Wk.strCh {index Wt i : Nat} {z j : Int32} {fm : Value} (W : Wk p l e R s m args below meth c Z a0 EL own sf T h k n) (hws : ∀ d ∈ StrChars.Road.wordsChN, d.before a0 Z = true) (wi : (Cond.instantiable "java/lang/String" 4).before a0 Z = true) (w1 : (Cond.methodLink own index ⟨"java/lang/String", "charAt", "(I)C"⟩).before a0 Z = true) (w2 : (Cond.declares ⟨"java/lang/String", "charAt", "(I)C"⟩).before a0 Z = true) (w3 : (Cond.selects "java/lang/String" ⟨"java/lang/String", "charAt", "(I)C"⟩ ⟨"java/lang/String", "charAt", "(I)C"⟩).before a0 Z = true) (w4 : (Cond.instanceMethod ⟨"java/lang/String", "charAt", "(I)C"⟩).before a0 Z = true)
    (S1 : Str Z h x cs) (hlat : ∀ c ∈ cs, ¬ (255 : Int32) < c) (l1 : cs.length ≤ 4000) (S : Sta Z h "java/lang/String" "COMPACT_STRINGS" "Z" (.int z)) (hz : ¬ z = 0) (F : Sta Z h "jdk/internal/util/Preconditions" "SIOOBE_FORMATTER" "Ljava/util/function/BiFunction;" fm) (rf : fm.isRef = true) (hi : i < cs.length) (hj : j = Int32.ofNat i) (hf : 4 ≤ R.frames) (hl : Wt + 53 ≤ R.locals) (hsz : Ls.size = c.maxLocals) (hW : (rest.map fun v => v.category).sum ≤ Wt) (hk : k ≤ R.cells) (hn : n ≤ R.slots) (hd : decode c.code pc = .ok (.invokevirtual index, 3))
    (go : ∀ T', Wk p l e R s m args below meth c Z a0 EL own sf T' h k n → Go p e below s Z EL rc rs Q (T'.setTop (mkF m (pc + 3) Ls (.int (cs.getD i 0) :: rest)))) : Go p e below s Z EL rc rs Q (T.setTop (mkF m pc Ls (.int j :: .ref x :: rest))) := by
  obtain ⟨u1, u2, u3, u4, vm0, k0, L, X, rfl, r2, r3, r4, r5, r6, r7, r8⟩ := W
  obtain ⟨t, kb, cd, N2, vs, s1, s2, s3, s4, s5, s6⟩ := S1
  obtain rfl : cd = 0 := by
    rcases s5 with ⟨q, -⟩ | ⟨-, -, -, c, hc, q⟩
    · exact q
    · exact absurd q (hlat c hc)
  obtain ⟨cq, kq, qa, qb, qc⟩ := isOf (s := s.setVm vm0) (T := T) r4 rfl s1
  obtain ⟨v, vm₁, ⟨T', L', k1, n1⟩, -, X', ⟨Lc, hQ, l', y', z'⟩, st⟩ := X.virtualBack u1 (y := (⟨"java/lang/String", "charAt", "(I)C"⟩ : MethodName)) (z := (⟨"java/lang/String", "charAt", "(I)C"⟩ : MethodName)) r5 (mvT (s := s.setVm vm0) r4 w1) (mvT (s := s.setVm vm0) r4 w2) (notFace_of_selects (args := #[]) (mvT (s := s.setVm vm0) r4 w3)) (mvT (s := s.setVm vm0) r4 w3) (mvT (s := s.setVm vm0) r4 w4) (by decide)
    (StrChars.Road.chN (W := Wt) (s := s.setVm vm0) r4 hws wi s1 s2 s3 s4 s5 s6 S hz F rf l1 hi hj hf hl) qa qc (g := mkF m pc Ls (.int j :: .ref x :: rest)) rfl hsz (Steps.refl _) (argsL := [.int j]) (rest := rest) (lenOf pdCh rfl) rfl (by show 2 * 0 + _ ≤ _; omega) hd (fun _ _ => ⟨rfl, rfl, hk, hn⟩)
  dsimp only [Pt.U, Pt.locs, Pt.cells, Pt.slots] at X' l' y' z' st hQ
  subst l' y' z'
  obtain ⟨rfl, rfl, e'⟩ := hQ
  rw [List.append_nil] at X'
  exact Go.of st (go T' ⟨u1, u2, u3, u4, vm0, k0, L, X', e', r2, r3, r4, r5, r6, r7, r8⟩)
end KitStrCh
theorem nar_i2c (x : Int32) : nar .char x.toUInt32.toUInt16.toUInt32.toInt32 = x.toUInt32.toUInt16.toUInt32.toInt32 := by
  have h1 := c_i2c x
  have h2 := c_i2c x.toUInt32.toUInt16.toUInt32.toInt32
  apply Int32.toInt_inj.mp
  show (x.toUInt32.toUInt16.toUInt32.toInt32.toUInt32.toUInt16.toUInt32.toInt32).toInt = _
  omega
theorem i2c_id {x : Int32} (h : ¬ x < 0 ∧ ¬ (65535 : Int32) < x) : x.toUInt32.toUInt16.toUInt32.toInt32 = x := by
  have h1 := c_i2c x
  apply Int32.toInt_inj.mp
  rw [Int32.lt_iff_toInt_lt, Int32.lt_iff_toInt_lt] at h
  have e : (65535 : Int32).toInt = 65535 := rfl
  have e0 : (0 : Int32).toInt = 0 := rfl
  omega
theorem nar_id {x : Int32} (h : ¬ x < 0 ∧ ¬ (65535 : Int32) < x) : nar .char x = x := i2c_id h
theorem up16 {x : Int32} (h : ¬ x < 0 ∧ ¬ (255 : Int32) < x) : ¬ x < 0 ∧ ¬ (65535 : Int32) < x := ⟨h.1, fun q => h.2 (by rw [Int32.lt_iff_toInt_lt] at q ⊢; have e1 : (65535 : Int32).toInt = 65535 := rfl; have e2 : (255 : Int32).toInt = 255 := rfl; omega)⟩
theorem i2c_rng (x : Int32) : ¬ x.toUInt32.toUInt16.toUInt32.toInt32 < 0 ∧ ¬ (65535 : Int32) < x.toUInt32.toUInt16.toUInt32.toInt32 := by
  have h1 := c_i2c x
  rw [Int32.lt_iff_toInt_lt, Int32.lt_iff_toInt_lt]
  have e : (65535 : Int32).toInt = 65535 := rfl
  have e0 : (0 : Int32).toInt = 0 := rfl
  omega
theorem and255 (x : Int32) : ¬ (x &&& (255 : Int32)) < 0 ∧ ¬ (255 : Int32) < (x &&& (255 : Int32)) := by
  have h := c_and x 255 (by decide)
  have e : (255 : Int32).toInt = 255 := rfl
  rw [Int32.lt_iff_toInt_lt, Int32.lt_iff_toInt_lt, e]
  have e0 : (0 : Int32).toInt = 0 := rfl
  omega
theorem k_mask (x : Int32) : ¬ (x &&& (255 : Int32)).toUInt32.toUInt16.toUInt32.toInt32 < 0 ∧ ¬ (255 : Int32) < (x &&& (255 : Int32)).toUInt32.toUInt16.toUInt32.toInt32 := by
  rw [i2c_mask]; exact and255 x
theorem k_nar (x : Int32) : nar .char (x &&& (255 : Int32)).toUInt32.toUInt16.toUInt32.toInt32 = (x &&& (255 : Int32)).toUInt32.toUInt16.toUInt32.toInt32 := nar_i2c _
theorem and3 (x : Int32) : x &&& (3 : Int32) = 0 ∨ x &&& (3 : Int32) = 1 ∨ x &&& (3 : Int32) = 2 ∨ x &&& (3 : Int32) = 3 := by
  have h := c_and x 3 (by decide)
  have e : (3 : Int32).toInt = 3 := rfl
  rcases (by omega : (x &&& (3 : Int32)).toInt = 0 ∨ (x &&& (3 : Int32)).toInt = 1 ∨ (x &&& (3 : Int32)).toInt = 2 ∨ (x &&& (3 : Int32)).toInt = 3) with q | q | q | q
  · exact Or.inl (Int32.toInt_inj.mp q)
  · exact Or.inr (Or.inl (Int32.toInt_inj.mp q))
  · exact Or.inr (Or.inr (Or.inl (Int32.toInt_inj.mp q)))
  · exact Or.inr (Or.inr (Or.inr (Int32.toInt_inj.mp q)))
theorem maskL255 (x : Int64) : ¬ (x &&& (255 : Int64)).toInt32.toUInt32.toUInt16.toUInt32.toInt32 < 0 ∧ ¬ (255 : Int32) < (x &&& (255 : Int64)).toInt32.toUInt32.toUInt16.toUInt32.toInt32 := by
  have h := c_maskL x 255 8 (by decide) (by decide)
  have h2 := c_l2i (x &&& (255 : Int64))
  have h3 := c_i2c (x &&& (255 : Int64)).toInt32
  have h4 := rng32 (x &&& (255 : Int64)).toInt32
  rw [Int32.lt_iff_toInt_lt, Int32.lt_iff_toInt_lt]
  have e : (255 : Int32).toInt = 255 := rfl
  have e0 : (0 : Int32).toInt = 0 := rfl
  have e8 : ((2 ^ 8 : Nat) : Int) = 256 := rfl
  omega
abbrev HW (Z : State) (a0 : Array Value) : Prop := ∀ d ∈ tables_1, d.before a0 Z = true
theorem k_words {Z : State} {a0 : Array Value} (hw : ∀ d ∈ tables_1, d.before a0 Z = true) : ∀ d ∈ StrChars.Road.words, d.before a0 Z = true := fun d hd => hw d ((by decide +kernel : ∀ d ∈ StrChars.Road.words, d ∈ tables_1) d hd)
theorem k_ch {Z : State} {a0 : Array Value} (hw : ∀ d ∈ tables_1, d.before a0 Z = true) : ∀ d ∈ StrChars.Road.wordsChN, d.before a0 Z = true := fun d hd => hw d ((by decide +kernel : ∀ d ∈ StrChars.Road.wordsChN, d ∈ tables_1) d hd)
theorem sta_exa {args : Array Value} {Z : State} {C n d K : String} (hx : (Cond.exactly (.static C n d) K).value args Z none Z [] = some true) (hi : (Cond.initializedFor C n d).before args Z = true ∨ ((Cond.initialized C).before args Z = true ∧ (Cond.laysStatic C n d).before args Z = true)) : ∃ a, Sta Z Z.heap C n d (.ref a) ∧ Exa Z Z.heap a K ∧ (Term.static C n d).eval args Z none [] Z = some (.ref a) := by
  obtain ⟨a, c', cell, k, e1, -⟩ := Cond.exactly_spec (Cond.before_iff.mpr hx)
  exact ⟨a, Sta.start e1 hi, Exa.start e1 hx, e1⟩
theorem lo8_lo8 (z : Int32) : z.toInt8.toInt32.toInt8.toInt32 = z.toInt8.toInt32 := by simp
theorem wd0 {Z : State} {a0 : Array Value} (hw : HW Z a0) : (Jvm.Cond.methodLink "com/example/kontraktbuch/kontraktbuch/NotationNumberPinLaw" (41 : Nat) ({ cls := "java/lang/Math", name := "min", desc := "(II)I" } : Jvm.MethodName)).before a0 Z = true := hw _ (List.mem_of_getElem? (i := 0) rfl)
theorem wd1 {Z : State} {a0 : Array Value} (hw : HW Z a0) : (Jvm.Cond.static ({ cls := "java/lang/Math", name := "min", desc := "(II)I" } : Jvm.MethodName)).before a0 Z = true := hw _ (List.mem_of_getElem? (i := 1) rfl)
theorem wd2 {Z : State} {a0 : Array Value} (hw : HW Z a0) : (Jvm.Cond.initialized "java/lang/Math").before a0 Z = true := hw _ (List.mem_of_getElem? (i := 2) rfl)
theorem wd3 {Z : State} {a0 : Array Value} (hw : HW Z a0) : (Jvm.Cond.code ({ cls := "java/lang/Math", name := "min", desc := "(II)I" } : Jvm.MethodName) jdk_29_method_69_code (2 : Nat) (Option.some Jvm.ClassFile.FieldType.int)).before a0 Z = true := hw _ (List.mem_of_getElem? (i := 3) rfl)
theorem wd4 {Z : State} {a0 : Array Value} (hw : HW Z a0) : (Jvm.Cond.methodLink "com/example/kontraktbuch/kontraktbuch/NotationNumberPinLaw" (47 : Nat) ({ cls := "java/lang/Math", name := "max", desc := "(II)I" } : Jvm.MethodName)).before a0 Z = true := hw _ (List.mem_of_getElem? (i := 4) rfl)
theorem wd5 {Z : State} {a0 : Array Value} (hw : HW Z a0) : (Jvm.Cond.static ({ cls := "java/lang/Math", name := "max", desc := "(II)I" } : Jvm.MethodName)).before a0 Z = true := hw _ (List.mem_of_getElem? (i := 5) rfl)
theorem wd6 {Z : State} {a0 : Array Value} (hw : HW Z a0) : (Jvm.Cond.code ({ cls := "java/lang/Math", name := "max", desc := "(II)I" } : Jvm.MethodName) jdk_29_method_65_code (2 : Nat) (Option.some Jvm.ClassFile.FieldType.int)).before a0 Z = true := hw _ (List.mem_of_getElem? (i := 6) rfl)
theorem wd7 {Z : State} {a0 : Array Value} (hw : HW Z a0) : (Jvm.Cond.arrayClass Jvm.ClassFile.FieldType.char).before a0 Z = true := hw _ (List.mem_of_getElem? (i := 7) rfl)
theorem wd8 {Z : State} {a0 : Array Value} (hw : HW Z a0) : (Jvm.Cond.methodLink "com/example/kontraktbuch/kontraktbuch/NotationNumberPinLaw" (50 : Nat) ({ cls := "com/example/kontraktbuch/kontraktbuch/NotationNumberPinLaw", name := "ch", desc := "(IIIJI)C" } : Jvm.MethodName)).before a0 Z = true := hw _ (List.mem_of_getElem? (i := 8) rfl)
theorem wd9 {Z : State} {a0 : Array Value} (hw : HW Z a0) : (Jvm.Cond.static ({ cls := "com/example/kontraktbuch/kontraktbuch/NotationNumberPinLaw", name := "ch", desc := "(IIIJI)C" } : Jvm.MethodName)).before a0 Z = true := hw _ (List.mem_of_getElem? (i := 9) rfl)
theorem wd10 {Z : State} {a0 : Array Value} (hw : HW Z a0) : (Jvm.Cond.initialized "com/example/kontraktbuch/kontraktbuch/NotationNumberPinLaw").before a0 Z = true := hw _ (List.mem_of_getElem? (i := 10) rfl)
theorem wd11 {Z : State} {a0 : Array Value} (hw : HW Z a0) : (Jvm.Cond.code ({ cls := "com/example/kontraktbuch/kontraktbuch/NotationNumberPinLaw", name := "ch", desc := "(IIIJI)C" } : Jvm.MethodName) method_5_code (6 : Nat) (Option.some Jvm.ClassFile.FieldType.char)).before a0 Z = true := hw _ (List.mem_of_getElem? (i := 11) rfl)
theorem wd12 {Z : State} {a0 : Array Value} (hw : HW Z a0) : (Jvm.Cond.methodLink "com/example/kontraktbuch/kontraktbuch/NotationNumberPinLaw" (27 : Nat) ({ cls := "com/example/kontraktbuch/kontraktbuch/NotationNumberPinLaw", name := "inside", desc := "(III)Z" } : Jvm.MethodName)).before a0 Z = true := hw _ (List.mem_of_getElem? (i := 12) rfl)
theorem wd13 {Z : State} {a0 : Array Value} (hw : HW Z a0) : (Jvm.Cond.static ({ cls := "com/example/kontraktbuch/kontraktbuch/NotationNumberPinLaw", name := "inside", desc := "(III)Z" } : Jvm.MethodName)).before a0 Z = true := hw _ (List.mem_of_getElem? (i := 13) rfl)
theorem wd14 {Z : State} {a0 : Array Value} (hw : HW Z a0) : (Jvm.Cond.code ({ cls := "com/example/kontraktbuch/kontraktbuch/NotationNumberPinLaw", name := "inside", desc := "(III)Z" } : Jvm.MethodName) method_4_code (3 : Nat) (Option.some Jvm.ClassFile.FieldType.boolean)).before a0 Z = true := hw _ (List.mem_of_getElem? (i := 14) rfl)
theorem wd15 {Z : State} {a0 : Array Value} (hw : HW Z a0) : (Jvm.Cond.methodLink "com/example/kontraktbuch/kontraktbuch/NotationNumberPinLaw" (33 : Nat) ({ cls := "com/example/kontraktbuch/kontraktbuch/NotationNumberPinLaw", name := "digit", desc := "(JI)I" } : Jvm.MethodName)).before a0 Z = true := hw _ (List.mem_of_getElem? (i := 15) rfl)
theorem wd16 {Z : State} {a0 : Array Value} (hw : HW Z a0) : (Jvm.Cond.static ({ cls := "com/example/kontraktbuch/kontraktbuch/NotationNumberPinLaw", name := "digit", desc := "(JI)I" } : Jvm.MethodName)).before a0 Z = true := hw _ (List.mem_of_getElem? (i := 16) rfl)
theorem wd17 {Z : State} {a0 : Array Value} (hw : HW Z a0) : (Jvm.Cond.code ({ cls := "com/example/kontraktbuch/kontraktbuch/NotationNumberPinLaw", name := "digit", desc := "(JI)I" } : Jvm.MethodName) method_3_code (3 : Nat) (Option.some Jvm.ClassFile.FieldType.int)).before a0 Z = true := hw _ (List.mem_of_getElem? (i := 17) rfl)
theorem wd18 {Z : State} {a0 : Array Value} (hw : HW Z a0) : (Jvm.Cond.constantLong "com/example/kontraktbuch/kontraktbuch/NotationNumberPinLaw" (25 : Nat) (15 : Int64)).before a0 Z = true := hw _ (List.mem_of_getElem? (i := 18) rfl)
theorem wd19 {Z : State} {a0 : Array Value} (hw : HW Z a0) : (Jvm.Cond.constantLong "com/example/kontraktbuch/kontraktbuch/NotationNumberPinLaw" (7 : Nat) (10 : Int64)).before a0 Z = true := hw _ (List.mem_of_getElem? (i := 19) rfl)
theorem wd20 {Z : State} {a0 : Array Value} (hw : HW Z a0) : (Jvm.Cond.classLink "com/example/kontraktbuch/kontraktbuch/NotationNumberPinLaw" (54 : Nat) "java/lang/String").before a0 Z = true := hw _ (List.mem_of_getElem? (i := 20) rfl)
theorem wd21 {Z : State} {a0 : Array Value} (hw : HW Z a0) : (Jvm.Cond.instantiable "java/lang/String" (4 : Nat)).before a0 Z = true := hw _ (List.mem_of_getElem? (i := 21) rfl)
theorem wd22 {Z : State} {a0 : Array Value} (hw : HW Z a0) : (Jvm.Cond.initialized "java/lang/String").before a0 Z = true := hw _ (List.mem_of_getElem? (i := 22) rfl)
theorem wd23 {Z : State} {a0 : Array Value} (hw : HW Z a0) : (Jvm.Cond.methodLink "com/example/kontraktbuch/kontraktbuch/NotationNumberPinLaw" (56 : Nat) ({ cls := "java/lang/String", name := "<init>", desc := "([C)V" } : Jvm.MethodName)).before a0 Z = true := hw _ (List.mem_of_getElem? (i := 23) rfl)
theorem wd24 {Z : State} {a0 : Array Value} (hw : HW Z a0) : (Jvm.Cond.instanceMethod ({ cls := "java/lang/String", name := "<init>", desc := "([C)V" } : Jvm.MethodName)).before a0 Z = true := hw _ (List.mem_of_getElem? (i := 24) rfl)
theorem wd46 {Z : State} {a0 : Array Value} (hw : HW Z a0) : (Jvm.Cond.laysFinal "java/lang/String" "java/lang/String" "coder" "B").before a0 Z = true := hw _ (List.mem_of_getElem? (i := 46) rfl)
theorem wd48 {Z : State} {a0 : Array Value} (hw : HW Z a0) : (Jvm.Cond.laysFinal "java/lang/String" "java/lang/String" "value" "[B").before a0 Z = true := hw _ (List.mem_of_getElem? (i := 48) rfl)
theorem wd49 {Z : State} {a0 : Array Value} (hw : HW Z a0) : (Jvm.Cond.methodLink "com/example/kontraktbuch/kontraktbuch/NotationNumberPinLaw" (59 : Nat) ({ cls := "com/example/kontraktbuch/kontraktbuch/NotationNumberPinLaw", name := "term", desc := "(IIIJ)J" } : Jvm.MethodName)).before a0 Z = true := hw _ (List.mem_of_getElem? (i := 49) rfl)
theorem wd50 {Z : State} {a0 : Array Value} (hw : HW Z a0) : (Jvm.Cond.static ({ cls := "com/example/kontraktbuch/kontraktbuch/NotationNumberPinLaw", name := "term", desc := "(IIIJ)J" } : Jvm.MethodName)).before a0 Z = true := hw _ (List.mem_of_getElem? (i := 50) rfl)
theorem wd51 {Z : State} {a0 : Array Value} (hw : HW Z a0) : (Jvm.Cond.code ({ cls := "com/example/kontraktbuch/kontraktbuch/NotationNumberPinLaw", name := "term", desc := "(IIIJ)J" } : Jvm.MethodName) method_6_code (5 : Nat) (Option.some Jvm.ClassFile.FieldType.long)).before a0 Z = true := hw _ (List.mem_of_getElem? (i := 51) rfl)
theorem wd52 {Z : State} {a0 : Array Value} (hw : HW Z a0) : (Jvm.Cond.methodLink "com/example/kontraktbuch/kontraktbuch/NotationNumberPinLaw" (37 : Nat) ({ cls := "com/example/kontraktbuch/kontraktbuch/NotationNumberPinLaw", name := "pow10", desc := "(I)J" } : Jvm.MethodName)).before a0 Z = true := hw _ (List.mem_of_getElem? (i := 52) rfl)
theorem wd53 {Z : State} {a0 : Array Value} (hw : HW Z a0) : (Jvm.Cond.static ({ cls := "com/example/kontraktbuch/kontraktbuch/NotationNumberPinLaw", name := "pow10", desc := "(I)J" } : Jvm.MethodName)).before a0 Z = true := hw _ (List.mem_of_getElem? (i := 53) rfl)
theorem wd54 {Z : State} {a0 : Array Value} (hw : HW Z a0) : (Jvm.Cond.code ({ cls := "com/example/kontraktbuch/kontraktbuch/NotationNumberPinLaw", name := "pow10", desc := "(I)J" } : Jvm.MethodName) method_2_code (2 : Nat) (Option.some Jvm.ClassFile.FieldType.long)).before a0 Z = true := hw _ (List.mem_of_getElem? (i := 54) rfl)
theorem wd55 {Z : State} {a0 : Array Value} (hw : HW Z a0) : (Jvm.Cond.arrayClass Jvm.ClassFile.FieldType.long).before a0 Z = true := hw _ (List.mem_of_getElem? (i := 55) rfl)
theorem wd56 {Z : State} {a0 : Array Value} (hw : HW Z a0) : (Jvm.Cond.constantLong "com/example/kontraktbuch/kontraktbuch/NotationNumberPinLaw" (9 : Nat) (100 : Int64)).before a0 Z = true := hw _ (List.mem_of_getElem? (i := 56) rfl)
theorem wd57 {Z : State} {a0 : Array Value} (hw : HW Z a0) : (Jvm.Cond.constantLong "com/example/kontraktbuch/kontraktbuch/NotationNumberPinLaw" (11 : Nat) (1000 : Int64)).before a0 Z = true := hw _ (List.mem_of_getElem? (i := 57) rfl)
theorem wd58 {Z : State} {a0 : Array Value} (hw : HW Z a0) : (Jvm.Cond.constantLong "com/example/kontraktbuch/kontraktbuch/NotationNumberPinLaw" (13 : Nat) (10000 : Int64)).before a0 Z = true := hw _ (List.mem_of_getElem? (i := 58) rfl)
theorem wd59 {Z : State} {a0 : Array Value} (hw : HW Z a0) : (Jvm.Cond.constantLong "com/example/kontraktbuch/kontraktbuch/NotationNumberPinLaw" (15 : Nat) (100000 : Int64)).before a0 Z = true := hw _ (List.mem_of_getElem? (i := 59) rfl)
theorem wd60 {Z : State} {a0 : Array Value} (hw : HW Z a0) : (Jvm.Cond.constantLong "com/example/kontraktbuch/kontraktbuch/NotationNumberPinLaw" (17 : Nat) (1000000 : Int64)).before a0 Z = true := hw _ (List.mem_of_getElem? (i := 60) rfl)
theorem wd61 {Z : State} {a0 : Array Value} (hw : HW Z a0) : (Jvm.Cond.constantLong "com/example/kontraktbuch/kontraktbuch/NotationNumberPinLaw" (19 : Nat) (10000000 : Int64)).before a0 Z = true := hw _ (List.mem_of_getElem? (i := 61) rfl)
theorem wd62 {Z : State} {a0 : Array Value} (hw : HW Z a0) : (Jvm.Cond.constantLong "com/example/kontraktbuch/kontraktbuch/NotationNumberPinLaw" (21 : Nat) (100000000 : Int64)).before a0 Z = true := hw _ (List.mem_of_getElem? (i := 62) rfl)
theorem wd63 {Z : State} {a0 : Array Value} (hw : HW Z a0) : (Jvm.Cond.constantLong "com/example/kontraktbuch/kontraktbuch/NotationNumberPinLaw" (23 : Nat) (1000000000 : Int64)).before a0 Z = true := hw _ (List.mem_of_getElem? (i := 63) rfl)
theorem wd64 {Z : State} {a0 : Array Value} (hw : HW Z a0) : (Jvm.Cond.constantLong "com/example/kontraktbuch/kontraktbuch/NotationNumberPinLaw" (65 : Nat) (2147483647 : Int64)).before a0 Z = true := hw _ (List.mem_of_getElem? (i := 64) rfl)
theorem wd65 {Z : State} {a0 : Array Value} (hw : HW Z a0) : (Jvm.Cond.methodLink "com/example/kontraktbuch/kontraktbuch/NotationNumberPinLaw" (67 : Nat) ({ cls := "com/example/kontraktbuch/kontraktbuch/Notation", name := "number", desc := "(Ljava/lang/String;II)I" } : Jvm.MethodName)).before a0 Z = true := hw _ (List.mem_of_getElem? (i := 65) rfl)
theorem wd66 {Z : State} {a0 : Array Value} (hw : HW Z a0) : (Jvm.Cond.static ({ cls := "com/example/kontraktbuch/kontraktbuch/Notation", name := "number", desc := "(Ljava/lang/String;II)I" } : Jvm.MethodName)).before a0 Z = true := hw _ (List.mem_of_getElem? (i := 66) rfl)
theorem wd67 {Z : State} {a0 : Array Value} (hw : HW Z a0) : (Jvm.Cond.initialized "com/example/kontraktbuch/kontraktbuch/Notation").before a0 Z = true := hw _ (List.mem_of_getElem? (i := 67) rfl)
theorem wd68 {Z : State} {a0 : Array Value} (hw : HW Z a0) : (Jvm.Cond.code ({ cls := "com/example/kontraktbuch/kontraktbuch/Notation", name := "number", desc := "(Ljava/lang/String;II)I" } : Jvm.MethodName) prog_29_method_12_code (5 : Nat) (Option.some Jvm.ClassFile.FieldType.int)).before a0 Z = true := hw _ (List.mem_of_getElem? (i := 68) rfl)
theorem wd69 {Z : State} {a0 : Array Value} (hw : HW Z a0) : (Jvm.Cond.methodLink "com/example/kontraktbuch/kontraktbuch/Notation" (19 : Nat) ({ cls := "java/lang/String", name := "charAt", desc := "(I)C" } : Jvm.MethodName)).before a0 Z = true := hw _ (List.mem_of_getElem? (i := 69) rfl)
theorem wd70 {Z : State} {a0 : Array Value} (hw : HW Z a0) : (Jvm.Cond.declares ({ cls := "java/lang/String", name := "charAt", desc := "(I)C" } : Jvm.MethodName)).before a0 Z = true := hw _ (List.mem_of_getElem? (i := 70) rfl)
theorem wd71 {Z : State} {a0 : Array Value} (hw : HW Z a0) : (Jvm.Cond.instanceMethod ({ cls := "java/lang/String", name := "charAt", desc := "(I)C" } : Jvm.MethodName)).before a0 Z = true := hw _ (List.mem_of_getElem? (i := 71) rfl)
theorem wd72 {Z : State} {a0 : Array Value} (hw : HW Z a0) : (Jvm.Cond.selects "java/lang/String" ({ cls := "java/lang/String", name := "charAt", desc := "(I)C" } : Jvm.MethodName) ({ cls := "java/lang/String", name := "charAt", desc := "(I)C" } : Jvm.MethodName)).before a0 Z = true := hw _ (List.mem_of_getElem? (i := 72) rfl)
theorem dc0_0 : decode jdk_29_method_69_code 0 = .ok (.iload_n 0, 1) := by decide +kernel
theorem dc0_1 : decode jdk_29_method_69_code 1 = .ok (.iload_n 1, 1) := by decide +kernel
theorem dc0_2 : decode jdk_29_method_69_code 2 = .ok (.if_icmp .gt 7, 3) := by decide +kernel
theorem dc0_9 : decode jdk_29_method_69_code 9 = .ok (.iload_n 1, 1) := by decide +kernel
theorem dc0_10 : decode jdk_29_method_69_code 10 = .ok (.ireturn, 1) := by decide +kernel
theorem dc0_5 : decode jdk_29_method_69_code 5 = .ok (.iload_n 0, 1) := by decide +kernel
theorem dc0_6 : decode jdk_29_method_69_code 6 = .ok (.goto 4, 3) := by decide +kernel
theorem pf_Math_min : plainFor (⟨"java/lang/Math", "min", "(II)I"⟩ : MethodName) = true := by decide +kernel
theorem dc1_0 : decode jdk_29_method_65_code 0 = .ok (.iload_n 0, 1) := by decide +kernel
theorem dc1_1 : decode jdk_29_method_65_code 1 = .ok (.iload_n 1, 1) := by decide +kernel
theorem dc1_2 : decode jdk_29_method_65_code 2 = .ok (.if_icmp .lt 7, 3) := by decide +kernel
theorem dc1_9 : decode jdk_29_method_65_code 9 = .ok (.iload_n 1, 1) := by decide +kernel
theorem dc1_10 : decode jdk_29_method_65_code 10 = .ok (.ireturn, 1) := by decide +kernel
theorem dc1_5 : decode jdk_29_method_65_code 5 = .ok (.iload_n 0, 1) := by decide +kernel
theorem dc1_6 : decode jdk_29_method_65_code 6 = .ok (.goto 4, 3) := by decide +kernel
theorem pf_Math_max : plainFor (⟨"java/lang/Math", "max", "(II)I"⟩ : MethodName) = true := by decide +kernel
theorem dc2_0 : decode method_4_code 0 = .ok (.iload_n 1, 1) := by decide +kernel
theorem dc2_1 : decode method_4_code 1 = .ok (.iload_n 0, 1) := by decide +kernel
theorem dc2_2 : decode method_4_code 2 = .ok (.if_icmp .gt 12, 3) := by decide +kernel
theorem dc2_14 : decode method_4_code 14 = .ok (.iconst 0, 1) := by decide +kernel
theorem dc2_15 : decode method_4_code 15 = .ok (.ireturn, 1) := by decide +kernel
theorem dc2_5 : decode method_4_code 5 = .ok (.iload_n 0, 1) := by decide +kernel
theorem dc2_6 : decode method_4_code 6 = .ok (.iload_n 2, 1) := by decide +kernel
theorem dc2_7 : decode method_4_code 7 = .ok (.if_icmp .ge 7, 3) := by decide +kernel
theorem dc2_10 : decode method_4_code 10 = .ok (.iconst 1, 1) := by decide +kernel
theorem dc2_11 : decode method_4_code 11 = .ok (.goto 4, 3) := by decide +kernel
theorem dc3_0 : decode method_3_code 0 = .ok (.lload_n 0, 1) := by decide +kernel
theorem dc3_1 : decode method_3_code 1 = .ok (.iconst 4, 1) := by decide +kernel
theorem dc3_2 : decode method_3_code 2 = .ok (.iload_n 2, 1) := by decide +kernel
theorem dc3_3 : decode method_3_code 3 = .ok (.imul, 1) := by decide +kernel
theorem dc3_4 : decode method_3_code 4 = .ok (.lushr, 1) := by decide +kernel
theorem dc3_5 : decode method_3_code 5 = .ok (.ldc2_w 25, 3) := by decide +kernel
theorem dc3_8 : decode method_3_code 8 = .ok (.land, 1) := by decide +kernel
theorem dc3_9 : decode method_3_code 9 = .ok (.ldc2_w 7, 3) := by decide +kernel
theorem dc3_12 : decode method_3_code 12 = .ok (.lrem, 1) := by decide +kernel
theorem dc3_13 : decode method_3_code 13 = .ok (.l2i, 1) := by decide +kernel
theorem dc3_14 : decode method_3_code 14 = .ok (.ireturn, 1) := by decide +kernel
theorem dc4_0 : decode method_5_code 0 = .ok (.iload_n 0, 1) := by decide +kernel
theorem dc4_1 : decode method_5_code 1 = .ok (.iload_n 1, 1) := by decide +kernel
theorem dc4_2 : decode method_5_code 2 = .ok (.iload_n 2, 1) := by decide +kernel
theorem dc4_3 : decode method_5_code 3 = .ok (.invokestatic 27, 3) := by decide +kernel
theorem dc4_6 : decode method_5_code 6 = .ok (.ifCond .eq 13, 3) := by decide +kernel
theorem dc4_19 : decode method_5_code 19 = .ok (.iload 5, 2) := by decide +kernel
theorem dc4_21 : decode method_5_code 21 = .ok (.sipush 255, 3) := by decide +kernel
theorem dc4_24 : decode method_5_code 24 = .ok (.iand, 1) := by decide +kernel
theorem dc4_25 : decode method_5_code 25 = .ok (.i2c, 1) := by decide +kernel
theorem dc4_26 : decode method_5_code 26 = .ok (.ireturn, 1) := by decide +kernel
theorem dc4_9 : decode method_5_code 9 = .ok (.bipush 48, 2) := by decide +kernel
theorem dc4_11 : decode method_5_code 11 = .ok (.lload_n 3, 1) := by decide +kernel
theorem dc4_12 : decode method_5_code 12 = .ok (.iload_n 0, 1) := by decide +kernel
theorem dc4_13 : decode method_5_code 13 = .ok (.invokestatic 33, 3) := by decide +kernel
theorem dc4_16 : decode method_5_code 16 = .ok (.iadd, 1) := by decide +kernel
theorem dc4_17 : decode method_5_code 17 = .ok (.i2c, 1) := by decide +kernel
theorem dc4_18 : decode method_5_code 18 = .ok (.ireturn, 1) := by decide +kernel
theorem dc5_0 : decode method_2_code 0 = .ok (.bipush 10, 2) := by decide +kernel
theorem dc5_2 : decode method_2_code 2 = .ok (.newarray .long, 2) := by decide +kernel
theorem dc5_4 : decode method_2_code 4 = .ok (.dup, 1) := by decide +kernel
theorem dc5_5 : decode method_2_code 5 = .ok (.iconst 0, 1) := by decide +kernel
theorem dc5_6 : decode method_2_code 6 = .ok (.lconst 1, 1) := by decide +kernel
theorem dc5_7 : decode method_2_code 7 = .ok (.lastore, 1) := by decide +kernel
theorem dc5_8 : decode method_2_code 8 = .ok (.dup, 1) := by decide +kernel
theorem dc5_9 : decode method_2_code 9 = .ok (.iconst 1, 1) := by decide +kernel
theorem dc5_10 : decode method_2_code 10 = .ok (.ldc2_w 7, 3) := by decide +kernel
theorem dc5_13 : decode method_2_code 13 = .ok (.lastore, 1) := by decide +kernel
theorem dc5_14 : decode method_2_code 14 = .ok (.dup, 1) := by decide +kernel
theorem dc5_15 : decode method_2_code 15 = .ok (.iconst 2, 1) := by decide +kernel
theorem dc5_16 : decode method_2_code 16 = .ok (.ldc2_w 9, 3) := by decide +kernel
theorem dc5_19 : decode method_2_code 19 = .ok (.lastore, 1) := by decide +kernel
theorem dc5_20 : decode method_2_code 20 = .ok (.dup, 1) := by decide +kernel
theorem dc5_21 : decode method_2_code 21 = .ok (.iconst 3, 1) := by decide +kernel
theorem dc5_22 : decode method_2_code 22 = .ok (.ldc2_w 11, 3) := by decide +kernel
theorem dc5_25 : decode method_2_code 25 = .ok (.lastore, 1) := by decide +kernel
theorem dc5_26 : decode method_2_code 26 = .ok (.dup, 1) := by decide +kernel
theorem dc5_27 : decode method_2_code 27 = .ok (.iconst 4, 1) := by decide +kernel
theorem dc5_28 : decode method_2_code 28 = .ok (.ldc2_w 13, 3) := by decide +kernel
theorem dc5_31 : decode method_2_code 31 = .ok (.lastore, 1) := by decide +kernel
theorem dc5_32 : decode method_2_code 32 = .ok (.dup, 1) := by decide +kernel
theorem dc5_33 : decode method_2_code 33 = .ok (.iconst 5, 1) := by decide +kernel
theorem dc5_34 : decode method_2_code 34 = .ok (.ldc2_w 15, 3) := by decide +kernel
theorem dc5_37 : decode method_2_code 37 = .ok (.lastore, 1) := by decide +kernel
theorem dc5_38 : decode method_2_code 38 = .ok (.dup, 1) := by decide +kernel
theorem dc5_39 : decode method_2_code 39 = .ok (.bipush 6, 2) := by decide +kernel
theorem dc5_41 : decode method_2_code 41 = .ok (.ldc2_w 17, 3) := by decide +kernel
theorem dc5_44 : decode method_2_code 44 = .ok (.lastore, 1) := by decide +kernel
theorem dc5_45 : decode method_2_code 45 = .ok (.dup, 1) := by decide +kernel
theorem dc5_46 : decode method_2_code 46 = .ok (.bipush 7, 2) := by decide +kernel
theorem dc5_48 : decode method_2_code 48 = .ok (.ldc2_w 19, 3) := by decide +kernel
theorem dc5_51 : decode method_2_code 51 = .ok (.lastore, 1) := by decide +kernel
theorem dc5_52 : decode method_2_code 52 = .ok (.dup, 1) := by decide +kernel
theorem dc5_53 : decode method_2_code 53 = .ok (.bipush 8, 2) := by decide +kernel
theorem dc5_55 : decode method_2_code 55 = .ok (.ldc2_w 21, 3) := by decide +kernel
theorem dc5_58 : decode method_2_code 58 = .ok (.lastore, 1) := by decide +kernel
theorem dc5_59 : decode method_2_code 59 = .ok (.dup, 1) := by decide +kernel
theorem dc5_60 : decode method_2_code 60 = .ok (.bipush 9, 2) := by decide +kernel
theorem dc5_62 : decode method_2_code 62 = .ok (.ldc2_w 23, 3) := by decide +kernel
theorem dc5_65 : decode method_2_code 65 = .ok (.lastore, 1) := by decide +kernel
theorem dc5_66 : decode method_2_code 66 = .ok (.astore_n 1, 1) := by decide +kernel
theorem dc5_67 : decode method_2_code 67 = .ok (.aload_n 1, 1) := by decide +kernel
theorem dc5_68 : decode method_2_code 68 = .ok (.iload_n 0, 1) := by decide +kernel
theorem dc5_69 : decode method_2_code 69 = .ok (.laload, 1) := by decide +kernel
theorem dc5_70 : decode method_2_code 70 = .ok (.lreturn, 1) := by decide +kernel
theorem dc6_0 : decode method_6_code 0 = .ok (.iload_n 0, 1) := by decide +kernel
theorem dc6_1 : decode method_6_code 1 = .ok (.iload_n 1, 1) := by decide +kernel
theorem dc6_2 : decode method_6_code 2 = .ok (.iload_n 2, 1) := by decide +kernel
theorem dc6_3 : decode method_6_code 3 = .ok (.invokestatic 27, 3) := by decide +kernel
theorem dc6_6 : decode method_6_code 6 = .ok (.ifCond .eq 19, 3) := by decide +kernel
theorem dc6_25 : decode method_6_code 25 = .ok (.lconst 0, 1) := by decide +kernel
theorem dc6_26 : decode method_6_code 26 = .ok (.lreturn, 1) := by decide +kernel
theorem dc6_9 : decode method_6_code 9 = .ok (.lload_n 3, 1) := by decide +kernel
theorem dc6_10 : decode method_6_code 10 = .ok (.iload_n 0, 1) := by decide +kernel
theorem dc6_11 : decode method_6_code 11 = .ok (.invokestatic 33, 3) := by decide +kernel
theorem dc6_14 : decode method_6_code 14 = .ok (.i2l, 1) := by decide +kernel
theorem dc6_15 : decode method_6_code 15 = .ok (.iload_n 2, 1) := by decide +kernel
theorem dc6_16 : decode method_6_code 16 = .ok (.iconst 1, 1) := by decide +kernel
theorem dc6_17 : decode method_6_code 17 = .ok (.isub, 1) := by decide +kernel
theorem dc6_18 : decode method_6_code 18 = .ok (.iload_n 0, 1) := by decide +kernel
theorem dc6_19 : decode method_6_code 19 = .ok (.isub, 1) := by decide +kernel
theorem dc6_20 : decode method_6_code 20 = .ok (.invokestatic 37, 3) := by decide +kernel
theorem dc6_23 : decode method_6_code 23 = .ok (.lmul, 1) := by decide +kernel
theorem dc6_24 : decode method_6_code 24 = .ok (.lreturn, 1) := by decide +kernel
theorem dc7_5 : decode prog_29_method_12_code 5 = .ok (.iload 4, 2) := by decide +kernel
theorem dc7_7 : decode prog_29_method_12_code 7 = .ok (.iload_n 2, 1) := by decide +kernel
theorem dc7_8 : decode prog_29_method_12_code 8 = .ok (.if_icmp .ge 24, 3) := by decide +kernel
theorem dc7_32 : decode prog_29_method_12_code 32 = .ok (.iload_n 3, 1) := by decide +kernel
theorem dc7_33 : decode prog_29_method_12_code 33 = .ok (.ireturn, 1) := by decide +kernel
theorem dc7_11 : decode prog_29_method_12_code 11 = .ok (.iload_n 3, 1) := by decide +kernel
theorem dc7_12 : decode prog_29_method_12_code 12 = .ok (.bipush 10, 2) := by decide +kernel
theorem dc7_14 : decode prog_29_method_12_code 14 = .ok (.imul, 1) := by decide +kernel
theorem dc7_15 : decode prog_29_method_12_code 15 = .ok (.aload_n 0, 1) := by decide +kernel
theorem dc7_16 : decode prog_29_method_12_code 16 = .ok (.iload 4, 2) := by decide +kernel
theorem dc7_18 : decode prog_29_method_12_code 18 = .ok (.invokevirtual 19, 3) := by decide +kernel
theorem dc7_21 : decode prog_29_method_12_code 21 = .ok (.iadd, 1) := by decide +kernel
theorem dc7_22 : decode prog_29_method_12_code 22 = .ok (.bipush 48, 2) := by decide +kernel
theorem dc7_24 : decode prog_29_method_12_code 24 = .ok (.isub, 1) := by decide +kernel
theorem dc7_25 : decode prog_29_method_12_code 25 = .ok (.istore_n 3, 1) := by decide +kernel
theorem dc7_26 : decode prog_29_method_12_code 26 = .ok (.iinc 4 1, 3) := by decide +kernel
theorem dc7_29 : decode prog_29_method_12_code 29 = .ok (.goto (-24), 3) := by decide +kernel
theorem dc7_0 : decode prog_29_method_12_code 0 = .ok (.iconst 0, 1) := by decide +kernel
theorem dc7_1 : decode prog_29_method_12_code 1 = .ok (.istore_n 3, 1) := by decide +kernel
theorem dc7_2 : decode prog_29_method_12_code 2 = .ok (.iload_n 1, 1) := by decide +kernel
theorem dc7_3 : decode prog_29_method_12_code 3 = .ok (.istore 4, 2) := by decide +kernel
theorem pd_0 : parseMethodDescriptor "(III)Z" = some ⟨[.int, .int, .int], some .boolean⟩ := by decide +kernel
theorem pd_1 : parseMethodDescriptor "(JI)I" = some ⟨[.long, .int], some .int⟩ := by decide +kernel
theorem pd_2 : parseMethodDescriptor "(I)J" = some ⟨[.int], some .long⟩ := by decide +kernel
theorem pd_3 : parseMethodDescriptor "(II)I" = some ⟨[.int, .int], some .int⟩ := by decide +kernel
theorem pd_4 : parseMethodDescriptor "(IIIJI)C" = some ⟨[.int, .int, .int, .long, .int], some .char⟩ := by decide +kernel
theorem pd_5 : parseMethodDescriptor "(IIIJ)J" = some ⟨[.int, .int, .int, .long], some .long⟩ := by decide +kernel
theorem pd_6 : parseMethodDescriptor "(Ljava/lang/String;II)I" = some ⟨[(.object "java/lang/String"), .int, .int], some .int⟩ := by decide +kernel
theorem pn_0 : plainName "com/example/kontraktbuch/kontraktbuch/NotationNumberPinLaw" = true := by first | (simp [plainName, overriddenIn]; done) | decide +kernel
theorem pn_1 : plainName "com/example/kontraktbuch/kontraktbuch/Notation" = true := by first | (simp [plainName, overriddenIn]; done) | decide +kernel
section KitLong
variable {p : Program} {l : Launch} {e : Env} {R : Room} {s : State} {m : MethodId} {args : Array Value} {below : List Frame} {meth : Method} {c : Code} {Z : State} {a0 : Array Value} {EL : List (String × Nat)} {own : String} {sf : List Addr} {T : State} {h h' h0 : Heap} {k n k' n' rc rs pc : Nat} {Ls : Array Slot} {stk rest : List Value} {Q : Option Value → Heap → Prop} {a x : Addr} {cs ds : List Int32}
theorem Wk.lald {kA : ClassId} {z j : Int32} {vs : List Value} {dv v : Value} (W : Wk p l e R s m args below meth c Z a0 EL own sf T h k n) (A : Arv Z h a kA .long z vs dv) (hj : ¬ j < 0 ∧ j < z) (hv : vs.getD j.toNatClampNeg dv = v) (hd : decode c.code pc = .ok (.laload, 1)) (go : Go p e below s Z EL rc rs Q (T.setTop (mkF m (pc + 1) Ls (v :: rest)))) : Go p e below s Z EL rc rs Q (T.setTop (mkF m pc Ls (.int j :: .ref a :: rest))) := by
  obtain ⟨w1, w2, w3, w4, vm0, k0, L, X, rfl, r2, r3, r4, r⟩ := W
  obtain ⟨cl, A1, hi, hat, -⟩ := inA A hj hv
  exact Go.by (X.laload w1 (j := j) (v := v) A1.1 (State.isArrayOf_alike (T := s.setVm vm0) r4.alike A1.2.1) A1.2.2 hi hat (g := mkF m pc Ls (.int j :: .ref a :: rest)) rfl rfl hd) go
theorem Wk.last {kA : ClassId} {z j : Int32} {v : Int64} {vs : List Value} {dv : Value} {i : Nat} (W : Wk p l e R s m args below meth c Z a0 EL own sf T h k n) (A : Arv Z h a kA .long z vs dv) (hj : ¬ j < 0 ∧ j < z) (hi : j.toNatClampNeg = i) (hlt : i < vs.length) (ha : Z.heap.size ≤ a) (hs : a ∈ sf) (hd : decode c.code pc = .ok (.lastore, 1))
    (go : ∀ T' h', Wk p l e R s m args below meth c Z a0 EL own sf T' h' k n → Wr h h' a j.toNatClampNeg (.long v) → Arv Z h' a kA .long z (vs.set i (.long v)) dv → Go p e below s Z EL rc rs Q (T'.setTop (mkF m (pc + 1) Ls rest))) : Go p e below s Z EL rc rs Q (T.setTop (mkF m pc Ls (.long v :: .int j :: .ref a :: rest))) := by
  obtain ⟨w1, w2, w3, w4, vm0, k0, L, X, r1, r2, r3, r4, r5, r6, r7, r8⟩ := W
  obtain ⟨cl, A1, A2, S, N, H, G⟩ := A
  obtain ⟨T', h', X', e', W', st⟩ := stJ X w1 r4 r1 A1 (j := j) (inb_of S hj) (g := mkF m pc Ls (.long v :: .int j :: .ref a :: rest)) rfl rfl hd
  exact Go.by st (go T' h' (Wk.wrote w1 w2 w3 w4 X' e' W' r2 r3 r4 r5 r6 r7 r8 ha hs) W' (Arv.set A1 A2 S N H G rfl W' i hi hlt))
end KitLong

def dgt (dd : Int64) (ii : Int32) : Int32 := (((dd.toUInt64 >>> (((4 : Int32) * ii) &&& 0x3f).toInt64.toUInt64).toInt64 &&& (15 : Int64)) - ((dd.toUInt64 >>> (((4 : Int32) * ii) &&& 0x3f).toInt64.toUInt64).toInt64 &&& (15 : Int64)) / (10 : Int64) * (10 : Int64)).toInt32
theorem dgt_rng (dd : Int64) (ii : Int32) : ¬ dgt dd ii < 0 ∧ ¬ (9 : Int32) < dgt dd ii := by
  unfold dgt
  generalize (dd.toUInt64 >>> (((4 : Int32) * ii) &&& 0x3f).toInt64.toUInt64).toInt64 = x
  have h := c_maskL x 15 4 (by decide) (by decide)
  have e4 : ((2 ^ 4 : Nat) : Int) = 16 := rfl
  rcases (by omega : (x &&& (15 : Int64)).toInt = 0 ∨ (x &&& (15 : Int64)).toInt = 1 ∨ (x &&& (15 : Int64)).toInt = 2 ∨ (x &&& (15 : Int64)).toInt = 3 ∨ (x &&& (15 : Int64)).toInt = 4 ∨ (x &&& (15 : Int64)).toInt = 5 ∨ (x &&& (15 : Int64)).toInt = 6 ∨ (x &&& (15 : Int64)).toInt = 7 ∨ (x &&& (15 : Int64)).toInt = 8 ∨ (x &&& (15 : Int64)).toInt = 9 ∨ (x &&& (15 : Int64)).toInt = 10 ∨ (x &&& (15 : Int64)).toInt = 11 ∨ (x &&& (15 : Int64)).toInt = 12 ∨ (x &&& (15 : Int64)).toInt = 13 ∨ (x &&& (15 : Int64)).toInt = 14 ∨ (x &&& (15 : Int64)).toInt = 15) with q_ | q_ | q_ | q_ | q_ | q_ | q_ | q_ | q_ | q_ | q_ | q_ | q_ | q_ | q_ | q_
  · rw [show x &&& (15 : Int64) = 0 from Int64.toInt_inj.mp q_]; decide
  · rw [show x &&& (15 : Int64) = 1 from Int64.toInt_inj.mp q_]; decide
  · rw [show x &&& (15 : Int64) = 2 from Int64.toInt_inj.mp q_]; decide
  · rw [show x &&& (15 : Int64) = 3 from Int64.toInt_inj.mp q_]; decide
  · rw [show x &&& (15 : Int64) = 4 from Int64.toInt_inj.mp q_]; decide
  · rw [show x &&& (15 : Int64) = 5 from Int64.toInt_inj.mp q_]; decide
  · rw [show x &&& (15 : Int64) = 6 from Int64.toInt_inj.mp q_]; decide
  · rw [show x &&& (15 : Int64) = 7 from Int64.toInt_inj.mp q_]; decide
  · rw [show x &&& (15 : Int64) = 8 from Int64.toInt_inj.mp q_]; decide
  · rw [show x &&& (15 : Int64) = 9 from Int64.toInt_inj.mp q_]; decide
  · rw [show x &&& (15 : Int64) = 10 from Int64.toInt_inj.mp q_]; decide
  · rw [show x &&& (15 : Int64) = 11 from Int64.toInt_inj.mp q_]; decide
  · rw [show x &&& (15 : Int64) = 12 from Int64.toInt_inj.mp q_]; decide
  · rw [show x &&& (15 : Int64) = 13 from Int64.toInt_inj.mp q_]; decide
  · rw [show x &&& (15 : Int64) = 14 from Int64.toInt_inj.mp q_]; decide
  · rw [show x &&& (15 : Int64) = 15 from Int64.toInt_inj.mp q_]; decide

theorem c_min (l : Launch) (Z : State) (a0 : Array Value) (hw : HW Z a0) (hEL : EW Z a0 []) (h0 : Heap) (hE0 : Ext Z.heap h0) (aa bb : Int32)  :
    Con l Z [] [] (⟨"java/lang/Math", "min", "(II)I"⟩ : MethodName) jdk_29_method_69_code 2 (some .int) [] (⟨0, 0, 0, 0⟩ : Room) #[(.int aa), (.int bb)] h0 (fun v h' => v = (some (.int (if bb < aa then bb else aa))) ∧ h' = h0) := by
  refine Con.mk pf_Math_min hEL hE0 (fun x hx => by cases hx) ?_
  intro p e s m below meth c T0 hby hml hret hnm W0
  rw [(show entryFrame m #[(.int aa), (.int bb)] 2 = mkF m 0 #[.val (.int aa), .val (.int bb)] [] from by first | (simp [entryFrame, mkF, argsToLocals, Value.category]; done) | rfl)]
  refine Go.by (fun t9_ q9_ => XS.iloadN W0.here W0.hx rfl (hb hby dc0_0) rfl (XS.iloadN W0.here W0.hx rfl (hb hby dc0_1) rfl q9_)) ?_
  by_cases h1 : bb < aa
  · refine Go.by (fun t9_ q9_ => XS.icmpYes W0.here W0.hx rfl (pc0 := 2) (pc' := 9) rfl (hb hby dc0_2) rfl (tlt h1).2.2.1 (by decide) (by decide) q9_) ?_
    refine Go.by (fun t9_ q9_ => XS.iloadN W0.here W0.hx rfl (hb hby dc0_9) rfl q9_) ?_
    show Go _ _ _ _ _ _ _ _ _ (T0.setTop (mkF m 10 #[.val (.int aa), .val (.int bb)] [(.int bb)]))
    exact W0.retI (by decide) (by decide) hret (hb hby dc0_10) ⟨by rw [if_pos h1], rfl⟩
  · refine Go.by (fun t9_ q9_ => XS.icmpNo W0.here W0.hx rfl (hb hby dc0_2) rfl (flt h1).2.2.1 q9_) ?_
    refine Go.by (fun t9_ q9_ => XS.iloadN W0.here W0.hx rfl (hb hby dc0_5) rfl (XS.goto W0.here W0.hx rfl (pc0 := 6) (pc' := 10) rfl (hb hby dc0_6) (by decide) (by decide) q9_)) ?_
    show Go _ _ _ _ _ _ _ _ _ (T0.setTop (mkF m 10 #[.val (.int aa), .val (.int bb)] [(.int aa)]))
    exact W0.retI (by decide) (by decide) hret (hb hby dc0_10) ⟨by rw [if_neg h1], rfl⟩
theorem c_max (l : Launch) (Z : State) (a0 : Array Value) (hw : HW Z a0) (hEL : EW Z a0 []) (h0 : Heap) (hE0 : Ext Z.heap h0) (aa bb : Int32)  :
    Con l Z [] [] (⟨"java/lang/Math", "max", "(II)I"⟩ : MethodName) jdk_29_method_65_code 2 (some .int) [] (⟨0, 0, 0, 0⟩ : Room) #[(.int aa), (.int bb)] h0 (fun v h' => v = (some (.int (if aa < bb then bb else aa))) ∧ h' = h0) := by
  refine Con.mk pf_Math_max hEL hE0 (fun x hx => by cases hx) ?_
  intro p e s m below meth c T0 hby hml hret hnm W0
  rw [(show entryFrame m #[(.int aa), (.int bb)] 2 = mkF m 0 #[.val (.int aa), .val (.int bb)] [] from by first | (simp [entryFrame, mkF, argsToLocals, Value.category]; done) | rfl)]
  refine Go.by (fun t9_ q9_ => XS.iloadN W0.here W0.hx rfl (hb hby dc1_0) rfl (XS.iloadN W0.here W0.hx rfl (hb hby dc1_1) rfl q9_)) ?_
  by_cases h1 : aa < bb
  · refine Go.by (fun t9_ q9_ => XS.icmpYes W0.here W0.hx rfl (pc0 := 2) (pc' := 9) rfl (hb hby dc1_2) rfl (tlt h1).1 (by decide) (by decide) q9_) ?_
    refine Go.by (fun t9_ q9_ => XS.iloadN W0.here W0.hx rfl (hb hby dc1_9) rfl q9_) ?_
    show Go _ _ _ _ _ _ _ _ _ (T0.setTop (mkF m 10 #[.val (.int aa), .val (.int bb)] [(.int bb)]))
    exact W0.retI (by decide) (by decide) hret (hb hby dc1_10) ⟨by rw [if_pos h1], rfl⟩
  · refine Go.by (fun t9_ q9_ => XS.icmpNo W0.here W0.hx rfl (hb hby dc1_2) rfl (flt h1).1 q9_) ?_
    refine Go.by (fun t9_ q9_ => XS.iloadN W0.here W0.hx rfl (hb hby dc1_5) rfl (XS.goto W0.here W0.hx rfl (pc0 := 6) (pc' := 10) rfl (hb hby dc1_6) (by decide) (by decide) q9_)) ?_
    show Go _ _ _ _ _ _ _ _ _ (T0.setTop (mkF m 10 #[.val (.int aa), .val (.int bb)] [(.int aa)]))
    exact W0.retI (by decide) (by decide) hret (hb hby dc1_10) ⟨by rw [if_neg h1], rfl⟩
theorem c_ins (l : Launch) (Z : State) (a0 : Array Value) (hw : HW Z a0) (hEL : EW Z a0 []) (h0 : Heap) (hE0 : Ext Z.heap h0) (ii lo hi : Int32)  :
    Con l Z [] [] (⟨"com/example/kontraktbuch/kontraktbuch/NotationNumberPinLaw", "inside", "(III)Z"⟩ : MethodName) method_4_code 3 (some .boolean) [] (⟨0, 0, 0, 0⟩ : Room) #[(.int ii), (.int lo), (.int hi)] h0 (fun v h' => v = (some (.int (if ii < lo then (0 : Int32) else if ii < hi then 1 else 0))) ∧ h' = h0) := by
  refine Con.mk (plainFor_of_name pn_0) hEL hE0 (fun x hx => by cases hx) ?_
  intro p e s m below meth c T0 hby hml hret hnm W0
  rw [(show entryFrame m #[(.int ii), (.int lo), (.int hi)] 3 = mkF m 0 #[.val (.int ii), .val (.int lo), .val (.int hi)] [] from by first | (simp [entryFrame, mkF, argsToLocals, Value.category]; done) | rfl)]
  refine Go.by (fun t9_ q9_ => XS.iloadN W0.here W0.hx rfl (hb hby dc2_0) rfl (XS.iloadN W0.here W0.hx rfl (hb hby dc2_1) rfl q9_)) ?_
  by_cases h1 : ii < lo
  · refine Go.by (fun t9_ q9_ => XS.icmpYes W0.here W0.hx rfl (pc0 := 2) (pc' := 14) rfl (hb hby dc2_2) rfl (tlt h1).2.2.1 (by decide) (by decide) q9_) ?_
    refine Go.by (fun t9_ q9_ => XS.iconst W0.here W0.hx rfl (hb hby dc2_14) q9_) ?_
    show Go _ _ _ _ _ _ _ _ _ (T0.setTop (mkF m 15 #[.val (.int ii), .val (.int lo), .val (.int hi)] [(.int (0 : Int32))]))
    exact W0.retN (z' := (0 : Int32)) (by decide) (by decide) hret (by simp) (hb hby dc2_15) rfl ⟨by rw [if_pos h1], rfl⟩
  · refine Go.by (fun t9_ q9_ => XS.icmpNo W0.here W0.hx rfl (hb hby dc2_2) rfl (flt h1).2.2.1 q9_) ?_
    refine Go.by (fun t9_ q9_ => XS.iloadN W0.here W0.hx rfl (hb hby dc2_5) rfl (XS.iloadN W0.here W0.hx rfl (hb hby dc2_6) rfl q9_)) ?_
    by_cases h2 : ii < hi
    · refine Go.by (fun t9_ q9_ => XS.icmpNo W0.here W0.hx rfl (hb hby dc2_7) rfl (tlt h2).2.1 q9_) ?_
      refine Go.by (fun t9_ q9_ => XS.iconst W0.here W0.hx rfl (hb hby dc2_10) (XS.goto W0.here W0.hx rfl (pc0 := 11) (pc' := 15) rfl (hb hby dc2_11) (by decide) (by decide) q9_)) ?_
      show Go _ _ _ _ _ _ _ _ _ (T0.setTop (mkF m 15 #[.val (.int ii), .val (.int lo), .val (.int hi)] [(.int (1 : Int32))]))
      exact W0.retN (z' := (1 : Int32)) (by decide) (by decide) hret (by simp) (hb hby dc2_15) rfl ⟨by rw [if_neg h1, if_pos h2], rfl⟩
    · refine Go.by (fun t9_ q9_ => XS.icmpYes W0.here W0.hx rfl (pc0 := 7) (pc' := 14) rfl (hb hby dc2_7) rfl (flt h2).2.1 (by decide) (by decide) q9_) ?_
      refine Go.by (fun t9_ q9_ => XS.iconst W0.here W0.hx rfl (hb hby dc2_14) q9_) ?_
      show Go _ _ _ _ _ _ _ _ _ (T0.setTop (mkF m 15 #[.val (.int ii), .val (.int lo), .val (.int hi)] [(.int (0 : Int32))]))
      exact W0.retN (z' := (0 : Int32)) (by decide) (by decide) hret (by simp) (hb hby dc2_15) rfl ⟨by rw [if_neg h1, if_neg h2], rfl⟩
theorem c_dgt (l : Launch) (Z : State) (a0 : Array Value) (hw : HW Z a0) (hEL : EW Z a0 []) (h0 : Heap) (hE0 : Ext Z.heap h0) (dd : Int64) (ii : Int32)  :
    Con l Z [] [] (⟨"com/example/kontraktbuch/kontraktbuch/NotationNumberPinLaw", "digit", "(JI)I"⟩ : MethodName) method_3_code 3 (some .int) [] (⟨0, 0, 0, 0⟩ : Room) #[(.long dd), (.int ii)] h0 (fun v h' => v = (some (.int (dgt dd ii))) ∧ h' = h0) := by
  refine Con.mk (plainFor_of_name pn_0) hEL hE0 (fun x hx => by cases hx) ?_
  intro p e s m below meth c T0 hby hml hret hnm W0
  rw [(show entryFrame m #[(.long dd), (.int ii)] 3 = mkF m 0 #[.val (.long dd), .second, .val (.int ii)] [] from by first | (simp [entryFrame, mkF, argsToLocals, Value.category]; done) | rfl)]
  refine Go.by (fun t9_ q9_ => XS.lloadN W0.here W0.hx rfl (hb hby dc3_0) rfl (XS.iconst W0.here W0.hx rfl (hb hby dc3_1) (XS.iloadN W0.here W0.hx rfl (hb hby dc3_2) rfl (XS.imul W0.here W0.hx rfl (hb hby dc3_3) rfl (XS.lushr W0.here W0.hx rfl (hb hby dc3_4) rfl q9_))))) ?_
  show Go _ _ _ _ _ _ _ _ _ (T0.setTop (mkF m 5 #[.val (.long dd), .second, .val (.int ii)] [(.long ((dd.toUInt64 >>> (((4 : Int32) * ii) &&& 0x3f).toInt64.toUInt64).toInt64))]))
  refine W0.ldcJ (wd18 hw) (hb hby dc3_5) ?_
  refine Go.by (fun t9_ q9_ => XS.land W0.here W0.hx rfl (hb hby dc3_8) rfl q9_) ?_
  show Go _ _ _ _ _ _ _ _ _ (T0.setTop (mkF m 9 #[.val (.long dd), .second, .val (.int ii)] [(.long (((dd.toUInt64 >>> (((4 : Int32) * ii) &&& 0x3f).toInt64.toUInt64).toInt64) &&& (15 : Int64)))]))
  refine W0.ldcJ (wd19 hw) (hb hby dc3_9) ?_
  refine Go.by (fun t9_ q9_ => XS.lrem W0.here W0.hx rfl (hb hby dc3_12) rfl (by decide) (XS.l2i W0.here W0.hx rfl (hb hby dc3_13) rfl q9_)) ?_
  show Go _ _ _ _ _ _ _ _ _ (T0.setTop (mkF m 14 #[.val (.long dd), .second, .val (.int ii)] [(.int (((((dd.toUInt64 >>> (((4 : Int32) * ii) &&& 0x3f).toInt64.toUInt64).toInt64) &&& (15 : Int64)) - (((dd.toUInt64 >>> (((4 : Int32) * ii) &&& 0x3f).toInt64.toUInt64).toInt64) &&& (15 : Int64)) / (10 : Int64) * (10 : Int64)).toInt32))]))
  exact W0.retI (by decide) (by decide) hret (hb hby dc3_14) ⟨rfl, rfl⟩
theorem d48_rng {d : Int32} (h : ¬ d < 0 ∧ ¬ (9 : Int32) < d) : ¬ ((48 : Int32) + d) < 0 ∧ ¬ (255 : Int32) < (48 : Int32) + d := by
  rw [Int32.lt_iff_toInt_lt, Int32.lt_iff_toInt_lt] at h
  have e0 : (0 : Int32).toInt = 0 := rfl
  have e9 : (9 : Int32).toInt = 9 := rfl
  rcases (by omega : d.toInt = 0 ∨ d.toInt = 1 ∨ d.toInt = 2 ∨ d.toInt = 3 ∨ d.toInt = 4 ∨ d.toInt = 5 ∨ d.toInt = 6 ∨ d.toInt = 7 ∨ d.toInt = 8 ∨ d.toInt = 9) with q_ | q_ | q_ | q_ | q_ | q_ | q_ | q_ | q_ | q_
  · rw [show d = 0 from Int32.toInt_inj.mp q_]; decide
  · rw [show d = 1 from Int32.toInt_inj.mp q_]; decide
  · rw [show d = 2 from Int32.toInt_inj.mp q_]; decide
  · rw [show d = 3 from Int32.toInt_inj.mp q_]; decide
  · rw [show d = 4 from Int32.toInt_inj.mp q_]; decide
  · rw [show d = 5 from Int32.toInt_inj.mp q_]; decide
  · rw [show d = 6 from Int32.toInt_inj.mp q_]; decide
  · rw [show d = 7 from Int32.toInt_inj.mp q_]; decide
  · rw [show d = 8 from Int32.toInt_inj.mp q_]; decide
  · rw [show d = 9 from Int32.toInt_inj.mp q_]; decide

theorem c_ch (l : Launch) (Z : State) (a0 : Array Value) (hw : HW Z a0) (hEL : EW Z a0 []) (h0 : Heap) (hE0 : Ext Z.heap h0) (ii lo hi : Int32) (dd : Int64) (jj : Int32)  :
    Con l Z [] [] (⟨"com/example/kontraktbuch/kontraktbuch/NotationNumberPinLaw", "ch", "(IIIJI)C"⟩ : MethodName) method_5_code 6 (some .char) [] (⟨1, 0, 0, 16⟩ : Room) #[(.int ii), (.int lo), (.int hi), (.long dd), (.int jj)] h0 (fun v h' => (∃ z, v = some (.int z) ∧ (¬ z < 0 ∧ ¬ (255 : Int32) < z) ∧ (¬ ii < lo → ii < hi → z = (48 : Int32) + dgt dd ii)) ∧ h' = h0) := by
  refine Con.mk (plainFor_of_name pn_0) hEL hE0 (fun x hx => by cases hx) ?_
  intro p e s m below meth c T0 hby hml hret hnm W0
  rw [(show entryFrame m #[(.int ii), (.int lo), (.int hi), (.long dd), (.int jj)] 6 = mkF m 0 #[.val (.int ii), .val (.int lo), .val (.int hi), .val (.long dd), .second, .val (.int jj)] [] from by first | (simp [entryFrame, mkF, argsToLocals, Value.category]; done) | rfl)]
  refine Go.by (fun t9_ q9_ => XS.iloadN W0.here W0.hx rfl (hb hby dc4_0) rfl (XS.iloadN W0.here W0.hx rfl (hb hby dc4_1) rfl (XS.iloadN W0.here W0.hx rfl (hb hby dc4_2) rfl q9_))) ?_
  show Go _ _ _ _ _ _ _ _ _ (T0.setTop (mkF m 3 #[.val (.int ii), .val (.int lo), .val (.int hi), .val (.long dd), .second, .val (.int jj)] [(.int hi), (.int lo), (.int ii)]))
  refine W0.callSp (y := (⟨"com/example/kontraktbuch/kontraktbuch/NotationNumberPinLaw", "inside", "(III)Z"⟩ : MethodName)) (wd12 hw) (wd13 hw) (wd10 hw) (wd14 hw) (by decide) (c_ins l Z a0 hw hEL h0 hE0 ii lo hi) all0 (by decide) (by decide) (k' := 0) (n' := 0) rfl rfl (by decide) (by decide) (by rw [hml]; rfl) (argsL := [(.int ii), (.int lo), (.int hi)]) (rest := []) (lenOf pd_0 rfl) rfl rfl (Wt := 0) (Nat.le_of_eq rfl) (hb hby dc4_3) ?_
  intro T1 W2
  by_cases h1 : ii < lo ∨ ¬ ii < hi
  · refine Go.by (fun t9_ q9_ => XS.ifYes W2.here W2.hx rfl (pc0 := 6) (pc' := 19) rfl (hb hby dc4_6) rfl ((if0 _ _).trans (teq (by rcases h1 with h1 | h1; rw [if_pos h1]; by_cases h2 : ii < lo; rw [if_pos h2]; rw [if_neg h2, if_neg h1])).1) (by decide) (by decide) q9_) ?_
    refine Go.by (fun t9_ q9_ => XS.iload W2.here W2.hx rfl (hb hby dc4_19) rfl (XS.sipush W2.here W2.hx rfl (hb hby dc4_21) (XS.iand W2.here W2.hx rfl (hb hby dc4_24) rfl (XS.i2c W2.here W2.hx rfl (hb hby dc4_25) rfl q9_)))) ?_
    show Go _ _ _ _ _ _ _ _ _ (T1.setTop (mkF m 26 #[.val (.int ii), .val (.int lo), .val (.int hi), .val (.long dd), .second, .val (.int jj)] [(.int ((jj &&& (255 : Int32)).toUInt32.toUInt16.toUInt32.toInt32))]))
    exact W2.retN (z' := ((jj &&& (255 : Int32)).toUInt32.toUInt16.toUInt32.toInt32)) (by decide) (by decide) hret (by simp) (hb hby dc4_26) (nar_i2c _) ⟨⟨_, rfl, k_mask _, fun q1 q2 => by rcases h1 with h1 | h1; exact absurd h1 q1; exact absurd q2 h1⟩, rfl⟩
  · refine Go.by (fun t9_ q9_ => XS.ifNo W2.here W2.hx rfl (hb hby dc4_6) rfl ((if0 _ _).trans (feq (by rw [if_neg (fun y => h1 (Or.inl y)), if_pos (Decidable.of_not_not (fun y => h1 (Or.inr y)))]; decide)).1) q9_) ?_
    refine Go.by (fun t9_ q9_ => XS.bipush W2.here W2.hx rfl (hb hby dc4_9) (XS.lloadN W2.here W2.hx rfl (hb hby dc4_11) rfl (XS.iloadN W2.here W2.hx rfl (hb hby dc4_12) rfl q9_))) ?_
    show Go _ _ _ _ _ _ _ _ _ (T1.setTop (mkF m 13 #[.val (.int ii), .val (.int lo), .val (.int hi), .val (.long dd), .second, .val (.int jj)] [(.int ii), (.long dd), (.int (48 : Int32))]))
    refine W2.callSp (y := (⟨"com/example/kontraktbuch/kontraktbuch/NotationNumberPinLaw", "digit", "(JI)I"⟩ : MethodName)) (wd15 hw) (wd16 hw) (wd10 hw) (wd17 hw) (by decide) (c_dgt l Z a0 hw hEL h0 W2.old dd ii) all0 (by decide) (by decide) (k' := 0) (n' := 0) rfl rfl (by decide) (by decide) (by rw [hml]; rfl) (argsL := [(.long dd), (.int ii)]) (rest := [(.int (48 : Int32))]) (lenOf pd_1 rfl) rfl rfl (Wt := 1) (Nat.le_of_eq rfl) (hb hby dc4_13) ?_
    intro T3 W4
    refine Go.by (fun t9_ q9_ => XS.iadd W4.here W4.hx rfl (hb hby dc4_16) rfl (XS.i2c W4.here W4.hx rfl (hb hby dc4_17) rfl q9_)) ?_
    show Go _ _ _ _ _ _ _ _ _ (T3.setTop (mkF m 18 #[.val (.int ii), .val (.int lo), .val (.int hi), .val (.long dd), .second, .val (.int jj)] [(.int (((48 : Int32) + (dgt dd ii)).toUInt32.toUInt16.toUInt32.toInt32))]))
    exact W4.retN (z' := ((48 : Int32) + dgt dd ii)) (by decide) (by decide) hret (by simp) (hb hby dc4_18) (by rw [i2c_id (up16 (d48_rng (dgt_rng _ _)))]; exact nar_id (up16 (d48_rng (dgt_rng _ _)))) ⟨⟨(48 : Int32) + dgt dd ii, rfl, d48_rng (dgt_rng _ _), fun _ _ => rfl⟩, rfl⟩
def pw (k : Int32) : Int64 := [(1 : Int64), 10, 100, 1000, 10000, 100000, 1000000, 10000000, 100000000, 1000000000].getD k.toNatClampNeg 0
theorem c_pw (l : Launch) (Z : State) (a0 : Array Value) (hw : HW Z a0) (hEL : EW Z a0 []) (h0 : Heap) (hE0 : Ext Z.heap h0) (kk : Int32) (hk : kk = (0 : Int32) ∨ kk = (1 : Int32) ∨ kk = (2 : Int32) ∨ kk = (3 : Int32) ∨ kk = (4 : Int32) ∨ kk = (5 : Int32) ∨ kk = (6 : Int32) ∨ kk = (7 : Int32) ∨ kk = (8 : Int32) ∨ kk = (9 : Int32)) :
    Con l Z [] [] (⟨"com/example/kontraktbuch/kontraktbuch/NotationNumberPinLaw", "pow10", "(I)J"⟩ : MethodName) method_2_code 2 (some .long) [] (⟨0, 1, 10, 0⟩ : Room) #[(.int kk)] h0 (fun v h' => v = some (.long (pw kk)) ∧ Ext h0 h') := by
  refine Con.mk (plainFor_of_name pn_0) hEL hE0 (fun x hx => by cases hx) ?_
  intro p e s m below meth c T0 hby hml hret hnm W0
  rw [(show entryFrame m #[(.int kk)] 2 = mkF m 0 #[.val (.int kk), .unset] [] from by first | (simp [entryFrame, mkF, argsToLocals, Value.category]; done) | rfl)]
  refine Go.by (fun t9_ q9_ => XS.bipush W0.here W0.hx rfl (hb hby dc5_0) q9_) ?_
  show Go _ _ _ _ _ _ _ _ _ (T0.setTop (mkF m 2 #[.val (.int kk), .unset] [(.int (10 : Int32))]))
  refine W0.newp (aty := .long) (wd55 hw) (hb hby dc5_2) (by decide) (cap := 10) (by decide) (by decide) (k' := 1) (n' := 10) rfl rfl (by decide) (by decide) (ad := "[J") rfl ?_
  intro T5 h6 pa k_pa W7 E8 g_pa z_pa A_pa V_pa
  have V1_pa : Arv Z h6 pa k_pa .long (10 : Int32) [(.long (0 : Int64)), (.long (0 : Int64)), (.long (0 : Int64)), (.long (0 : Int64)), (.long (0 : Int64)), (.long (0 : Int64)), (.long (0 : Int64)), (.long (0 : Int64)), (.long (0 : Int64)), (.long (0 : Int64))] (.long (0 : Int64)) := V_pa.pad (pad_rep [] (.long (0 : Int64)) 10)
  refine Go.by (fun t9_ q9_ => XS.dup W7.here W7.hx rfl (hb hby dc5_4) rfl rfl (XS.iconst W7.here W7.hx rfl (hb hby dc5_5) (XS.lconst W7.here W7.hx rfl (hb hby dc5_6) q9_))) ?_
  show Go _ _ _ _ _ _ _ _ _ (T5.setTop (mkF m 7 #[.val (.int kk), .unset] [(.long (1 : Int64)), (.int (0 : Int32)), (.ref pa), (.ref pa)]))
  refine W7.last V1_pa ⟨by decide, by decide⟩ (i := 0) rfl (by simp) z_pa (List.mem_of_getElem? (i := 0) rfl) (hb hby dc5_7) ?_
  intro T9 h10 W11 Wr12 V13_pa'
  have V13_pa : Arv Z h10 pa k_pa .long (10 : Int32) [(.long (1 : Int64)), (.long (0 : Int64)), (.long (0 : Int64)), (.long (0 : Int64)), (.long (0 : Int64)), (.long (0 : Int64)), (.long (0 : Int64)), (.long (0 : Int64)), (.long (0 : Int64)), (.long (0 : Int64))] (.long (0 : Int64)) := V13_pa'
  refine Go.by (fun t9_ q9_ => XS.dup W11.here W11.hx rfl (hb hby dc5_8) rfl rfl (XS.iconst W11.here W11.hx rfl (hb hby dc5_9) q9_)) ?_
  show Go _ _ _ _ _ _ _ _ _ (T9.setTop (mkF m 10 #[.val (.int kk), .unset] [(.int (1 : Int32)), (.ref pa), (.ref pa)]))
  refine W11.ldcJ (wd19 hw) (hb hby dc5_10) ?_
  show Go _ _ _ _ _ _ _ _ _ (T9.setTop (mkF m 13 #[.val (.int kk), .unset] [(.long (10 : Int64)), (.int (1 : Int32)), (.ref pa), (.ref pa)]))
  refine W11.last V13_pa ⟨by decide, by decide⟩ (i := 1) rfl (by simp) z_pa (List.mem_of_getElem? (i := 0) rfl) (hb hby dc5_13) ?_
  intro T14 h15 W16 Wr17 V18_pa'
  have V18_pa : Arv Z h15 pa k_pa .long (10 : Int32) [(.long (1 : Int64)), (.long (10 : Int64)), (.long (0 : Int64)), (.long (0 : Int64)), (.long (0 : Int64)), (.long (0 : Int64)), (.long (0 : Int64)), (.long (0 : Int64)), (.long (0 : Int64)), (.long (0 : Int64))] (.long (0 : Int64)) := V18_pa'
  refine Go.by (fun t9_ q9_ => XS.dup W16.here W16.hx rfl (hb hby dc5_14) rfl rfl (XS.iconst W16.here W16.hx rfl (hb hby dc5_15) q9_)) ?_
  show Go _ _ _ _ _ _ _ _ _ (T14.setTop (mkF m 16 #[.val (.int kk), .unset] [(.int (2 : Int32)), (.ref pa), (.ref pa)]))
  refine W16.ldcJ (wd56 hw) (hb hby dc5_16) ?_
  show Go _ _ _ _ _ _ _ _ _ (T14.setTop (mkF m 19 #[.val (.int kk), .unset] [(.long (100 : Int64)), (.int (2 : Int32)), (.ref pa), (.ref pa)]))
  refine W16.last V18_pa ⟨by decide, by decide⟩ (i := 2) rfl (by simp) z_pa (List.mem_of_getElem? (i := 0) rfl) (hb hby dc5_19) ?_
  intro T19 h20 W21 Wr22 V23_pa'
  have V23_pa : Arv Z h20 pa k_pa .long (10 : Int32) [(.long (1 : Int64)), (.long (10 : Int64)), (.long (100 : Int64)), (.long (0 : Int64)), (.long (0 : Int64)), (.long (0 : Int64)), (.long (0 : Int64)), (.long (0 : Int64)), (.long (0 : Int64)), (.long (0 : Int64))] (.long (0 : Int64)) := V23_pa'
  refine Go.by (fun t9_ q9_ => XS.dup W21.here W21.hx rfl (hb hby dc5_20) rfl rfl (XS.iconst W21.here W21.hx rfl (hb hby dc5_21) q9_)) ?_
  show Go _ _ _ _ _ _ _ _ _ (T19.setTop (mkF m 22 #[.val (.int kk), .unset] [(.int (3 : Int32)), (.ref pa), (.ref pa)]))
  refine W21.ldcJ (wd57 hw) (hb hby dc5_22) ?_
  show Go _ _ _ _ _ _ _ _ _ (T19.setTop (mkF m 25 #[.val (.int kk), .unset] [(.long (1000 : Int64)), (.int (3 : Int32)), (.ref pa), (.ref pa)]))
  refine W21.last V23_pa ⟨by decide, by decide⟩ (i := 3) rfl (by simp) z_pa (List.mem_of_getElem? (i := 0) rfl) (hb hby dc5_25) ?_
  intro T24 h25 W26 Wr27 V28_pa'
  have V28_pa : Arv Z h25 pa k_pa .long (10 : Int32) [(.long (1 : Int64)), (.long (10 : Int64)), (.long (100 : Int64)), (.long (1000 : Int64)), (.long (0 : Int64)), (.long (0 : Int64)), (.long (0 : Int64)), (.long (0 : Int64)), (.long (0 : Int64)), (.long (0 : Int64))] (.long (0 : Int64)) := V28_pa'
  refine Go.by (fun t9_ q9_ => XS.dup W26.here W26.hx rfl (hb hby dc5_26) rfl rfl (XS.iconst W26.here W26.hx rfl (hb hby dc5_27) q9_)) ?_
  show Go _ _ _ _ _ _ _ _ _ (T24.setTop (mkF m 28 #[.val (.int kk), .unset] [(.int (4 : Int32)), (.ref pa), (.ref pa)]))
  refine W26.ldcJ (wd58 hw) (hb hby dc5_28) ?_
  show Go _ _ _ _ _ _ _ _ _ (T24.setTop (mkF m 31 #[.val (.int kk), .unset] [(.long (10000 : Int64)), (.int (4 : Int32)), (.ref pa), (.ref pa)]))
  refine W26.last V28_pa ⟨by decide, by decide⟩ (i := 4) rfl (by simp) z_pa (List.mem_of_getElem? (i := 0) rfl) (hb hby dc5_31) ?_
  intro T29 h30 W31 Wr32 V33_pa'
  have V33_pa : Arv Z h30 pa k_pa .long (10 : Int32) [(.long (1 : Int64)), (.long (10 : Int64)), (.long (100 : Int64)), (.long (1000 : Int64)), (.long (10000 : Int64)), (.long (0 : Int64)), (.long (0 : Int64)), (.long (0 : Int64)), (.long (0 : Int64)), (.long (0 : Int64))] (.long (0 : Int64)) := V33_pa'
  refine Go.by (fun t9_ q9_ => XS.dup W31.here W31.hx rfl (hb hby dc5_32) rfl rfl (XS.iconst W31.here W31.hx rfl (hb hby dc5_33) q9_)) ?_
  show Go _ _ _ _ _ _ _ _ _ (T29.setTop (mkF m 34 #[.val (.int kk), .unset] [(.int (5 : Int32)), (.ref pa), (.ref pa)]))
  refine W31.ldcJ (wd59 hw) (hb hby dc5_34) ?_
  show Go _ _ _ _ _ _ _ _ _ (T29.setTop (mkF m 37 #[.val (.int kk), .unset] [(.long (100000 : Int64)), (.int (5 : Int32)), (.ref pa), (.ref pa)]))
  refine W31.last V33_pa ⟨by decide, by decide⟩ (i := 5) rfl (by simp) z_pa (List.mem_of_getElem? (i := 0) rfl) (hb hby dc5_37) ?_
  intro T34 h35 W36 Wr37 V38_pa'
  have V38_pa : Arv Z h35 pa k_pa .long (10 : Int32) [(.long (1 : Int64)), (.long (10 : Int64)), (.long (100 : Int64)), (.long (1000 : Int64)), (.long (10000 : Int64)), (.long (100000 : Int64)), (.long (0 : Int64)), (.long (0 : Int64)), (.long (0 : Int64)), (.long (0 : Int64))] (.long (0 : Int64)) := V38_pa'
  refine Go.by (fun t9_ q9_ => XS.dup W36.here W36.hx rfl (hb hby dc5_38) rfl rfl (XS.bipush W36.here W36.hx rfl (hb hby dc5_39) q9_)) ?_
  show Go _ _ _ _ _ _ _ _ _ (T34.setTop (mkF m 41 #[.val (.int kk), .unset] [(.int (6 : Int32)), (.ref pa), (.ref pa)]))
  refine W36.ldcJ (wd60 hw) (hb hby dc5_41) ?_
  show Go _ _ _ _ _ _ _ _ _ (T34.setTop (mkF m 44 #[.val (.int kk), .unset] [(.long (1000000 : Int64)), (.int (6 : Int32)), (.ref pa), (.ref pa)]))
  refine W36.last V38_pa ⟨by decide, by decide⟩ (i := 6) rfl (by simp) z_pa (List.mem_of_getElem? (i := 0) rfl) (hb hby dc5_44) ?_
  intro T39 h40 W41 Wr42 V43_pa'
  have V43_pa : Arv Z h40 pa k_pa .long (10 : Int32) [(.long (1 : Int64)), (.long (10 : Int64)), (.long (100 : Int64)), (.long (1000 : Int64)), (.long (10000 : Int64)), (.long (100000 : Int64)), (.long (1000000 : Int64)), (.long (0 : Int64)), (.long (0 : Int64)), (.long (0 : Int64))] (.long (0 : Int64)) := V43_pa'
  refine Go.by (fun t9_ q9_ => XS.dup W41.here W41.hx rfl (hb hby dc5_45) rfl rfl (XS.bipush W41.here W41.hx rfl (hb hby dc5_46) q9_)) ?_
  show Go _ _ _ _ _ _ _ _ _ (T39.setTop (mkF m 48 #[.val (.int kk), .unset] [(.int (7 : Int32)), (.ref pa), (.ref pa)]))
  refine W41.ldcJ (wd61 hw) (hb hby dc5_48) ?_
  show Go _ _ _ _ _ _ _ _ _ (T39.setTop (mkF m 51 #[.val (.int kk), .unset] [(.long (10000000 : Int64)), (.int (7 : Int32)), (.ref pa), (.ref pa)]))
  refine W41.last V43_pa ⟨by decide, by decide⟩ (i := 7) rfl (by simp) z_pa (List.mem_of_getElem? (i := 0) rfl) (hb hby dc5_51) ?_
  intro T44 h45 W46 Wr47 V48_pa'
  have V48_pa : Arv Z h45 pa k_pa .long (10 : Int32) [(.long (1 : Int64)), (.long (10 : Int64)), (.long (100 : Int64)), (.long (1000 : Int64)), (.long (10000 : Int64)), (.long (100000 : Int64)), (.long (1000000 : Int64)), (.long (10000000 : Int64)), (.long (0 : Int64)), (.long (0 : Int64))] (.long (0 : Int64)) := V48_pa'
  refine Go.by (fun t9_ q9_ => XS.dup W46.here W46.hx rfl (hb hby dc5_52) rfl rfl (XS.bipush W46.here W46.hx rfl (hb hby dc5_53) q9_)) ?_
  show Go _ _ _ _ _ _ _ _ _ (T44.setTop (mkF m 55 #[.val (.int kk), .unset] [(.int (8 : Int32)), (.ref pa), (.ref pa)]))
  refine W46.ldcJ (wd62 hw) (hb hby dc5_55) ?_
  show Go _ _ _ _ _ _ _ _ _ (T44.setTop (mkF m 58 #[.val (.int kk), .unset] [(.long (100000000 : Int64)), (.int (8 : Int32)), (.ref pa), (.ref pa)]))
  refine W46.last V48_pa ⟨by decide, by decide⟩ (i := 8) rfl (by simp) z_pa (List.mem_of_getElem? (i := 0) rfl) (hb hby dc5_58) ?_
  intro T49 h50 W51 Wr52 V53_pa'
  have V53_pa : Arv Z h50 pa k_pa .long (10 : Int32) [(.long (1 : Int64)), (.long (10 : Int64)), (.long (100 : Int64)), (.long (1000 : Int64)), (.long (10000 : Int64)), (.long (100000 : Int64)), (.long (1000000 : Int64)), (.long (10000000 : Int64)), (.long (100000000 : Int64)), (.long (0 : Int64))] (.long (0 : Int64)) := V53_pa'
  refine Go.by (fun t9_ q9_ => XS.dup W51.here W51.hx rfl (hb hby dc5_59) rfl rfl (XS.bipush W51.here W51.hx rfl (hb hby dc5_60) q9_)) ?_
  show Go _ _ _ _ _ _ _ _ _ (T49.setTop (mkF m 62 #[.val (.int kk), .unset] [(.int (9 : Int32)), (.ref pa), (.ref pa)]))
  refine W51.ldcJ (wd63 hw) (hb hby dc5_62) ?_
  show Go _ _ _ _ _ _ _ _ _ (T49.setTop (mkF m 65 #[.val (.int kk), .unset] [(.long (1000000000 : Int64)), (.int (9 : Int32)), (.ref pa), (.ref pa)]))
  refine W51.last V53_pa ⟨by decide, by decide⟩ (i := 9) rfl (by simp) z_pa (List.mem_of_getElem? (i := 0) rfl) (hb hby dc5_65) ?_
  intro T54 h55 W56 Wr57 V58_pa'
  have V58_pa : Arv Z h55 pa k_pa .long (10 : Int32) [(.long (1 : Int64)), (.long (10 : Int64)), (.long (100 : Int64)), (.long (1000 : Int64)), (.long (10000 : Int64)), (.long (100000 : Int64)), (.long (1000000 : Int64)), (.long (10000000 : Int64)), (.long (100000000 : Int64)), (.long (1000000000 : Int64))] (.long (0 : Int64)) := V58_pa'
  refine Go.by (fun t9_ q9_ => XS.astoreN W56.here W56.hx rfl (hb hby dc5_66) rfl rfl (l' := #[.val (.int kk), .val (.ref pa)]) rfl (XS.aloadN W56.here W56.hx rfl (hb hby dc5_67) rfl rfl (XS.iloadN W56.here W56.hx rfl (hb hby dc5_68) rfl q9_))) ?_
  rcases hk with rfl | rfl | rfl | rfl | rfl | rfl | rfl | rfl | rfl | rfl
  · show Go _ _ _ _ _ _ _ _ _ (T54.setTop (mkF m 69 #[.val (.int (0 : Int32)), .val (.ref pa)] [(.int (0 : Int32)), (.ref pa)]))
    refine W56.lald V58_pa ⟨by decide, by decide⟩ (v := .long (1 : Int64)) rfl (hb hby dc5_69) ?_
    have X59 : Ext h0 h10 := (Ext.wr' E8 Wr12 (Nat.le_of_eq g_pa))
    have X60 : Ext h0 h15 := (Ext.wr' X59 Wr17 (Nat.le_of_eq g_pa))
    have X61 : Ext h0 h20 := (Ext.wr' X60 Wr22 (Nat.le_of_eq g_pa))
    have X62 : Ext h0 h25 := (Ext.wr' X61 Wr27 (Nat.le_of_eq g_pa))
    have X63 : Ext h0 h30 := (Ext.wr' X62 Wr32 (Nat.le_of_eq g_pa))
    have X64 : Ext h0 h35 := (Ext.wr' X63 Wr37 (Nat.le_of_eq g_pa))
    have X65 : Ext h0 h40 := (Ext.wr' X64 Wr42 (Nat.le_of_eq g_pa))
    have X66 : Ext h0 h45 := (Ext.wr' X65 Wr47 (Nat.le_of_eq g_pa))
    have X67 : Ext h0 h50 := (Ext.wr' X66 Wr52 (Nat.le_of_eq g_pa))
    have X68 : Ext h0 h55 := (Ext.wr' X67 Wr57 (Nat.le_of_eq g_pa))
    show Go _ _ _ _ _ _ _ _ _ (T54.setTop (mkF m 70 #[.val (.int (0 : Int32)), .val (.ref pa)] [(.long (1 : Int64))]))
    exact W56.retJ (by decide) (by decide) hret (hb hby dc5_70) ⟨rfl, X68⟩
  · show Go _ _ _ _ _ _ _ _ _ (T54.setTop (mkF m 69 #[.val (.int (1 : Int32)), .val (.ref pa)] [(.int (1 : Int32)), (.ref pa)]))
    refine W56.lald V58_pa ⟨by decide, by decide⟩ (v := .long (10 : Int64)) rfl (hb hby dc5_69) ?_
    have X69 : Ext h0 h10 := (Ext.wr' E8 Wr12 (Nat.le_of_eq g_pa))
    have X70 : Ext h0 h15 := (Ext.wr' X69 Wr17 (Nat.le_of_eq g_pa))
    have X71 : Ext h0 h20 := (Ext.wr' X70 Wr22 (Nat.le_of_eq g_pa))
    have X72 : Ext h0 h25 := (Ext.wr' X71 Wr27 (Nat.le_of_eq g_pa))
    have X73 : Ext h0 h30 := (Ext.wr' X72 Wr32 (Nat.le_of_eq g_pa))
    have X74 : Ext h0 h35 := (Ext.wr' X73 Wr37 (Nat.le_of_eq g_pa))
    have X75 : Ext h0 h40 := (Ext.wr' X74 Wr42 (Nat.le_of_eq g_pa))
    have X76 : Ext h0 h45 := (Ext.wr' X75 Wr47 (Nat.le_of_eq g_pa))
    have X77 : Ext h0 h50 := (Ext.wr' X76 Wr52 (Nat.le_of_eq g_pa))
    have X78 : Ext h0 h55 := (Ext.wr' X77 Wr57 (Nat.le_of_eq g_pa))
    show Go _ _ _ _ _ _ _ _ _ (T54.setTop (mkF m 70 #[.val (.int (1 : Int32)), .val (.ref pa)] [(.long (10 : Int64))]))
    exact W56.retJ (by decide) (by decide) hret (hb hby dc5_70) ⟨rfl, X78⟩
  · show Go _ _ _ _ _ _ _ _ _ (T54.setTop (mkF m 69 #[.val (.int (2 : Int32)), .val (.ref pa)] [(.int (2 : Int32)), (.ref pa)]))
    refine W56.lald V58_pa ⟨by decide, by decide⟩ (v := .long (100 : Int64)) rfl (hb hby dc5_69) ?_
    have X79 : Ext h0 h10 := (Ext.wr' E8 Wr12 (Nat.le_of_eq g_pa))
    have X80 : Ext h0 h15 := (Ext.wr' X79 Wr17 (Nat.le_of_eq g_pa))
    have X81 : Ext h0 h20 := (Ext.wr' X80 Wr22 (Nat.le_of_eq g_pa))
    have X82 : Ext h0 h25 := (Ext.wr' X81 Wr27 (Nat.le_of_eq g_pa))
    have X83 : Ext h0 h30 := (Ext.wr' X82 Wr32 (Nat.le_of_eq g_pa))
    have X84 : Ext h0 h35 := (Ext.wr' X83 Wr37 (Nat.le_of_eq g_pa))
    have X85 : Ext h0 h40 := (Ext.wr' X84 Wr42 (Nat.le_of_eq g_pa))
    have X86 : Ext h0 h45 := (Ext.wr' X85 Wr47 (Nat.le_of_eq g_pa))
    have X87 : Ext h0 h50 := (Ext.wr' X86 Wr52 (Nat.le_of_eq g_pa))
    have X88 : Ext h0 h55 := (Ext.wr' X87 Wr57 (Nat.le_of_eq g_pa))
    show Go _ _ _ _ _ _ _ _ _ (T54.setTop (mkF m 70 #[.val (.int (2 : Int32)), .val (.ref pa)] [(.long (100 : Int64))]))
    exact W56.retJ (by decide) (by decide) hret (hb hby dc5_70) ⟨rfl, X88⟩
  · show Go _ _ _ _ _ _ _ _ _ (T54.setTop (mkF m 69 #[.val (.int (3 : Int32)), .val (.ref pa)] [(.int (3 : Int32)), (.ref pa)]))
    refine W56.lald V58_pa ⟨by decide, by decide⟩ (v := .long (1000 : Int64)) rfl (hb hby dc5_69) ?_
    have X89 : Ext h0 h10 := (Ext.wr' E8 Wr12 (Nat.le_of_eq g_pa))
    have X90 : Ext h0 h15 := (Ext.wr' X89 Wr17 (Nat.le_of_eq g_pa))
    have X91 : Ext h0 h20 := (Ext.wr' X90 Wr22 (Nat.le_of_eq g_pa))
    have X92 : Ext h0 h25 := (Ext.wr' X91 Wr27 (Nat.le_of_eq g_pa))
    have X93 : Ext h0 h30 := (Ext.wr' X92 Wr32 (Nat.le_of_eq g_pa))
    have X94 : Ext h0 h35 := (Ext.wr' X93 Wr37 (Nat.le_of_eq g_pa))
    have X95 : Ext h0 h40 := (Ext.wr' X94 Wr42 (Nat.le_of_eq g_pa))
    have X96 : Ext h0 h45 := (Ext.wr' X95 Wr47 (Nat.le_of_eq g_pa))
    have X97 : Ext h0 h50 := (Ext.wr' X96 Wr52 (Nat.le_of_eq g_pa))
    have X98 : Ext h0 h55 := (Ext.wr' X97 Wr57 (Nat.le_of_eq g_pa))
    show Go _ _ _ _ _ _ _ _ _ (T54.setTop (mkF m 70 #[.val (.int (3 : Int32)), .val (.ref pa)] [(.long (1000 : Int64))]))
    exact W56.retJ (by decide) (by decide) hret (hb hby dc5_70) ⟨rfl, X98⟩
  · show Go _ _ _ _ _ _ _ _ _ (T54.setTop (mkF m 69 #[.val (.int (4 : Int32)), .val (.ref pa)] [(.int (4 : Int32)), (.ref pa)]))
    refine W56.lald V58_pa ⟨by decide, by decide⟩ (v := .long (10000 : Int64)) rfl (hb hby dc5_69) ?_
    have X99 : Ext h0 h10 := (Ext.wr' E8 Wr12 (Nat.le_of_eq g_pa))
    have X100 : Ext h0 h15 := (Ext.wr' X99 Wr17 (Nat.le_of_eq g_pa))
    have X101 : Ext h0 h20 := (Ext.wr' X100 Wr22 (Nat.le_of_eq g_pa))
    have X102 : Ext h0 h25 := (Ext.wr' X101 Wr27 (Nat.le_of_eq g_pa))
    have X103 : Ext h0 h30 := (Ext.wr' X102 Wr32 (Nat.le_of_eq g_pa))
    have X104 : Ext h0 h35 := (Ext.wr' X103 Wr37 (Nat.le_of_eq g_pa))
    have X105 : Ext h0 h40 := (Ext.wr' X104 Wr42 (Nat.le_of_eq g_pa))
    have X106 : Ext h0 h45 := (Ext.wr' X105 Wr47 (Nat.le_of_eq g_pa))
    have X107 : Ext h0 h50 := (Ext.wr' X106 Wr52 (Nat.le_of_eq g_pa))
    have X108 : Ext h0 h55 := (Ext.wr' X107 Wr57 (Nat.le_of_eq g_pa))
    show Go _ _ _ _ _ _ _ _ _ (T54.setTop (mkF m 70 #[.val (.int (4 : Int32)), .val (.ref pa)] [(.long (10000 : Int64))]))
    exact W56.retJ (by decide) (by decide) hret (hb hby dc5_70) ⟨rfl, X108⟩
  · show Go _ _ _ _ _ _ _ _ _ (T54.setTop (mkF m 69 #[.val (.int (5 : Int32)), .val (.ref pa)] [(.int (5 : Int32)), (.ref pa)]))
    refine W56.lald V58_pa ⟨by decide, by decide⟩ (v := .long (100000 : Int64)) rfl (hb hby dc5_69) ?_
    have X109 : Ext h0 h10 := (Ext.wr' E8 Wr12 (Nat.le_of_eq g_pa))
    have X110 : Ext h0 h15 := (Ext.wr' X109 Wr17 (Nat.le_of_eq g_pa))
    have X111 : Ext h0 h20 := (Ext.wr' X110 Wr22 (Nat.le_of_eq g_pa))
    have X112 : Ext h0 h25 := (Ext.wr' X111 Wr27 (Nat.le_of_eq g_pa))
    have X113 : Ext h0 h30 := (Ext.wr' X112 Wr32 (Nat.le_of_eq g_pa))
    have X114 : Ext h0 h35 := (Ext.wr' X113 Wr37 (Nat.le_of_eq g_pa))
    have X115 : Ext h0 h40 := (Ext.wr' X114 Wr42 (Nat.le_of_eq g_pa))
    have X116 : Ext h0 h45 := (Ext.wr' X115 Wr47 (Nat.le_of_eq g_pa))
    have X117 : Ext h0 h50 := (Ext.wr' X116 Wr52 (Nat.le_of_eq g_pa))
    have X118 : Ext h0 h55 := (Ext.wr' X117 Wr57 (Nat.le_of_eq g_pa))
    show Go _ _ _ _ _ _ _ _ _ (T54.setTop (mkF m 70 #[.val (.int (5 : Int32)), .val (.ref pa)] [(.long (100000 : Int64))]))
    exact W56.retJ (by decide) (by decide) hret (hb hby dc5_70) ⟨rfl, X118⟩
  · show Go _ _ _ _ _ _ _ _ _ (T54.setTop (mkF m 69 #[.val (.int (6 : Int32)), .val (.ref pa)] [(.int (6 : Int32)), (.ref pa)]))
    refine W56.lald V58_pa ⟨by decide, by decide⟩ (v := .long (1000000 : Int64)) rfl (hb hby dc5_69) ?_
    have X119 : Ext h0 h10 := (Ext.wr' E8 Wr12 (Nat.le_of_eq g_pa))
    have X120 : Ext h0 h15 := (Ext.wr' X119 Wr17 (Nat.le_of_eq g_pa))
    have X121 : Ext h0 h20 := (Ext.wr' X120 Wr22 (Nat.le_of_eq g_pa))
    have X122 : Ext h0 h25 := (Ext.wr' X121 Wr27 (Nat.le_of_eq g_pa))
    have X123 : Ext h0 h30 := (Ext.wr' X122 Wr32 (Nat.le_of_eq g_pa))
    have X124 : Ext h0 h35 := (Ext.wr' X123 Wr37 (Nat.le_of_eq g_pa))
    have X125 : Ext h0 h40 := (Ext.wr' X124 Wr42 (Nat.le_of_eq g_pa))
    have X126 : Ext h0 h45 := (Ext.wr' X125 Wr47 (Nat.le_of_eq g_pa))
    have X127 : Ext h0 h50 := (Ext.wr' X126 Wr52 (Nat.le_of_eq g_pa))
    have X128 : Ext h0 h55 := (Ext.wr' X127 Wr57 (Nat.le_of_eq g_pa))
    show Go _ _ _ _ _ _ _ _ _ (T54.setTop (mkF m 70 #[.val (.int (6 : Int32)), .val (.ref pa)] [(.long (1000000 : Int64))]))
    exact W56.retJ (by decide) (by decide) hret (hb hby dc5_70) ⟨rfl, X128⟩
  · show Go _ _ _ _ _ _ _ _ _ (T54.setTop (mkF m 69 #[.val (.int (7 : Int32)), .val (.ref pa)] [(.int (7 : Int32)), (.ref pa)]))
    refine W56.lald V58_pa ⟨by decide, by decide⟩ (v := .long (10000000 : Int64)) rfl (hb hby dc5_69) ?_
    have X129 : Ext h0 h10 := (Ext.wr' E8 Wr12 (Nat.le_of_eq g_pa))
    have X130 : Ext h0 h15 := (Ext.wr' X129 Wr17 (Nat.le_of_eq g_pa))
    have X131 : Ext h0 h20 := (Ext.wr' X130 Wr22 (Nat.le_of_eq g_pa))
    have X132 : Ext h0 h25 := (Ext.wr' X131 Wr27 (Nat.le_of_eq g_pa))
    have X133 : Ext h0 h30 := (Ext.wr' X132 Wr32 (Nat.le_of_eq g_pa))
    have X134 : Ext h0 h35 := (Ext.wr' X133 Wr37 (Nat.le_of_eq g_pa))
    have X135 : Ext h0 h40 := (Ext.wr' X134 Wr42 (Nat.le_of_eq g_pa))
    have X136 : Ext h0 h45 := (Ext.wr' X135 Wr47 (Nat.le_of_eq g_pa))
    have X137 : Ext h0 h50 := (Ext.wr' X136 Wr52 (Nat.le_of_eq g_pa))
    have X138 : Ext h0 h55 := (Ext.wr' X137 Wr57 (Nat.le_of_eq g_pa))
    show Go _ _ _ _ _ _ _ _ _ (T54.setTop (mkF m 70 #[.val (.int (7 : Int32)), .val (.ref pa)] [(.long (10000000 : Int64))]))
    exact W56.retJ (by decide) (by decide) hret (hb hby dc5_70) ⟨rfl, X138⟩
  · show Go _ _ _ _ _ _ _ _ _ (T54.setTop (mkF m 69 #[.val (.int (8 : Int32)), .val (.ref pa)] [(.int (8 : Int32)), (.ref pa)]))
    refine W56.lald V58_pa ⟨by decide, by decide⟩ (v := .long (100000000 : Int64)) rfl (hb hby dc5_69) ?_
    have X139 : Ext h0 h10 := (Ext.wr' E8 Wr12 (Nat.le_of_eq g_pa))
    have X140 : Ext h0 h15 := (Ext.wr' X139 Wr17 (Nat.le_of_eq g_pa))
    have X141 : Ext h0 h20 := (Ext.wr' X140 Wr22 (Nat.le_of_eq g_pa))
    have X142 : Ext h0 h25 := (Ext.wr' X141 Wr27 (Nat.le_of_eq g_pa))
    have X143 : Ext h0 h30 := (Ext.wr' X142 Wr32 (Nat.le_of_eq g_pa))
    have X144 : Ext h0 h35 := (Ext.wr' X143 Wr37 (Nat.le_of_eq g_pa))
    have X145 : Ext h0 h40 := (Ext.wr' X144 Wr42 (Nat.le_of_eq g_pa))
    have X146 : Ext h0 h45 := (Ext.wr' X145 Wr47 (Nat.le_of_eq g_pa))
    have X147 : Ext h0 h50 := (Ext.wr' X146 Wr52 (Nat.le_of_eq g_pa))
    have X148 : Ext h0 h55 := (Ext.wr' X147 Wr57 (Nat.le_of_eq g_pa))
    show Go _ _ _ _ _ _ _ _ _ (T54.setTop (mkF m 70 #[.val (.int (8 : Int32)), .val (.ref pa)] [(.long (100000000 : Int64))]))
    exact W56.retJ (by decide) (by decide) hret (hb hby dc5_70) ⟨rfl, X148⟩
  · show Go _ _ _ _ _ _ _ _ _ (T54.setTop (mkF m 69 #[.val (.int (9 : Int32)), .val (.ref pa)] [(.int (9 : Int32)), (.ref pa)]))
    refine W56.lald V58_pa ⟨by decide, by decide⟩ (v := .long (1000000000 : Int64)) rfl (hb hby dc5_69) ?_
    have X149 : Ext h0 h10 := (Ext.wr' E8 Wr12 (Nat.le_of_eq g_pa))
    have X150 : Ext h0 h15 := (Ext.wr' X149 Wr17 (Nat.le_of_eq g_pa))
    have X151 : Ext h0 h20 := (Ext.wr' X150 Wr22 (Nat.le_of_eq g_pa))
    have X152 : Ext h0 h25 := (Ext.wr' X151 Wr27 (Nat.le_of_eq g_pa))
    have X153 : Ext h0 h30 := (Ext.wr' X152 Wr32 (Nat.le_of_eq g_pa))
    have X154 : Ext h0 h35 := (Ext.wr' X153 Wr37 (Nat.le_of_eq g_pa))
    have X155 : Ext h0 h40 := (Ext.wr' X154 Wr42 (Nat.le_of_eq g_pa))
    have X156 : Ext h0 h45 := (Ext.wr' X155 Wr47 (Nat.le_of_eq g_pa))
    have X157 : Ext h0 h50 := (Ext.wr' X156 Wr52 (Nat.le_of_eq g_pa))
    have X158 : Ext h0 h55 := (Ext.wr' X157 Wr57 (Nat.le_of_eq g_pa))
    show Go _ _ _ _ _ _ _ _ _ (T54.setTop (mkF m 70 #[.val (.int (9 : Int32)), .val (.ref pa)] [(.long (1000000000 : Int64))]))
    exact W56.retJ (by decide) (by decide) hret (hb hby dc5_70) ⟨rfl, X158⟩
def tm (dd : Int64) (ii lo hi : Int32) : Int64 := if ii < lo then 0 else if ii < hi then (dgt dd ii).toInt64 * pw (hi - 1 - ii) else 0
theorem c_tm (l : Launch) (Z : State) (a0 : Array Value) (hw : HW Z a0) (hEL : EW Z a0 []) (h0 : Heap) (hE0 : Ext Z.heap h0) (ii lo hi : Int32) (dd : Int64) (hk : ii < hi → hi - 1 - ii = (0 : Int32) ∨ hi - 1 - ii = (1 : Int32) ∨ hi - 1 - ii = (2 : Int32) ∨ hi - 1 - ii = (3 : Int32) ∨ hi - 1 - ii = (4 : Int32) ∨ hi - 1 - ii = (5 : Int32) ∨ hi - 1 - ii = (6 : Int32) ∨ hi - 1 - ii = (7 : Int32) ∨ hi - 1 - ii = (8 : Int32) ∨ hi - 1 - ii = (9 : Int32)) :
    Con l Z [] [] (⟨"com/example/kontraktbuch/kontraktbuch/NotationNumberPinLaw", "term", "(IIIJ)J"⟩ : MethodName) method_6_code 5 (some .long) [] (⟨1, 1, 10, 15⟩ : Room) #[(.int ii), (.int lo), (.int hi), (.long dd)] h0 (fun v h' => v = some (.long (tm dd ii lo hi)) ∧ Ext h0 h') := by
  refine Con.mk (plainFor_of_name pn_0) hEL hE0 (fun x hx => by cases hx) ?_
  intro p e s m below meth c T0 hby hml hret hnm W0
  rw [(show entryFrame m #[(.int ii), (.int lo), (.int hi), (.long dd)] 5 = mkF m 0 #[.val (.int ii), .val (.int lo), .val (.int hi), .val (.long dd), .second] [] from by first | (simp [entryFrame, mkF, argsToLocals, Value.category]; done) | rfl)]
  refine Go.by (fun t9_ q9_ => XS.iloadN W0.here W0.hx rfl (hb hby dc6_0) rfl (XS.iloadN W0.here W0.hx rfl (hb hby dc6_1) rfl (XS.iloadN W0.here W0.hx rfl (hb hby dc6_2) rfl q9_))) ?_
  show Go _ _ _ _ _ _ _ _ _ (T0.setTop (mkF m 3 #[.val (.int ii), .val (.int lo), .val (.int hi), .val (.long dd), .second] [(.int hi), (.int lo), (.int ii)]))
  refine W0.callSp (y := (⟨"com/example/kontraktbuch/kontraktbuch/NotationNumberPinLaw", "inside", "(III)Z"⟩ : MethodName)) (wd12 hw) (wd13 hw) (wd10 hw) (wd14 hw) (by decide) (c_ins l Z a0 hw hEL h0 hE0 ii lo hi) all0 (by decide) (by decide) (k' := 0) (n' := 0) rfl rfl (by decide) (by decide) (by rw [hml]; rfl) (argsL := [(.int ii), (.int lo), (.int hi)]) (rest := []) (lenOf pd_0 rfl) rfl rfl (Wt := 0) (Nat.le_of_eq rfl) (hb hby dc6_3) ?_
  intro T159 W160
  by_cases h1 : ii < lo
  · refine Go.by (fun t9_ q9_ => XS.ifYes W160.here W160.hx rfl (pc0 := 6) (pc' := 25) rfl (hb hby dc6_6) rfl ((if0 _ _).trans (teq (by rw [if_pos h1])).1) (by decide) (by decide) q9_) ?_
    refine Go.by (fun t9_ q9_ => XS.lconst W160.here W160.hx rfl (hb hby dc6_25) q9_) ?_
    show Go _ _ _ _ _ _ _ _ _ (T159.setTop (mkF m 26 #[.val (.int ii), .val (.int lo), .val (.int hi), .val (.long dd), .second] [(.long (0 : Int64))]))
    exact W160.retJ (by decide) (by decide) hret (hb hby dc6_26) ⟨by unfold tm; rw [if_pos h1], Ext.refl' _⟩
  · by_cases h2 : ii < hi
    · refine Go.by (fun t9_ q9_ => XS.ifNo W160.here W160.hx rfl (hb hby dc6_6) rfl ((if0 _ _).trans (feq (by rw [if_neg h1, if_pos h2]; decide)).1) q9_) ?_
      refine Go.by (fun t9_ q9_ => XS.lloadN W160.here W160.hx rfl (hb hby dc6_9) rfl (XS.iloadN W160.here W160.hx rfl (hb hby dc6_10) rfl q9_)) ?_
      show Go _ _ _ _ _ _ _ _ _ (T159.setTop (mkF m 11 #[.val (.int ii), .val (.int lo), .val (.int hi), .val (.long dd), .second] [(.int ii), (.long dd)]))
      refine W160.callSp (y := (⟨"com/example/kontraktbuch/kontraktbuch/NotationNumberPinLaw", "digit", "(JI)I"⟩ : MethodName)) (wd15 hw) (wd16 hw) (wd10 hw) (wd17 hw) (by decide) (c_dgt l Z a0 hw hEL h0 W160.old dd ii) all0 (by decide) (by decide) (k' := 0) (n' := 0) rfl rfl (by decide) (by decide) (by rw [hml]; rfl) (argsL := [(.long dd), (.int ii)]) (rest := []) (lenOf pd_1 rfl) rfl rfl (Wt := 0) (Nat.le_of_eq rfl) (hb hby dc6_11) ?_
      intro T161 W162
      refine Go.by (fun t9_ q9_ => XS.i2l W162.here W162.hx rfl (hb hby dc6_14) rfl (XS.iloadN W162.here W162.hx rfl (hb hby dc6_15) rfl (XS.iconst W162.here W162.hx rfl (hb hby dc6_16) (XS.isub W162.here W162.hx rfl (hb hby dc6_17) rfl (XS.iloadN W162.here W162.hx rfl (hb hby dc6_18) rfl (XS.isub W162.here W162.hx rfl (hb hby dc6_19) rfl q9_)))))) ?_
      show Go _ _ _ _ _ _ _ _ _ (T161.setTop (mkF m 20 #[.val (.int ii), .val (.int lo), .val (.int hi), .val (.long dd), .second] [(.int ((hi - (1 : Int32)) - ii)), (.long ((dgt dd ii).toInt64))]))
      refine W162.callS (y := (⟨"com/example/kontraktbuch/kontraktbuch/NotationNumberPinLaw", "pow10", "(I)J"⟩ : MethodName)) (wd52 hw) (wd53 hw) (wd10 hw) (wd54 hw) (by decide) (c_pw l Z a0 hw hEL h0 W162.old (hi - 1 - ii) (hk h2)) all0 (by decide) (by decide) (k' := 1) (n' := 10) rfl rfl (by decide) (by decide) (by rw [hml]; rfl) (argsL := [(.int ((hi - (1 : Int32)) - ii))]) (rest := [(.long ((dgt dd ii).toInt64))]) (lenOf pd_2 rfl) rfl rfl (Wt := 2) (Nat.le_of_eq rfl) (hb hby dc6_20) ?_
      intro v_ T163 h165 W164 hq_
      obtain ⟨rfl, X1⟩ := hq_
      refine Go.by (fun t9_ q9_ => XS.lmul W164.here W164.hx rfl (hb hby dc6_23) rfl q9_) ?_
      show Go _ _ _ _ _ _ _ _ _ (T163.setTop (mkF m 24 #[.val (.int ii), .val (.int lo), .val (.int hi), .val (.long dd), .second] [(.long (((dgt dd ii).toInt64) * (pw (hi - 1 - ii))))]))
      exact W164.retJ (by decide) (by decide) hret (hb hby dc6_24) ⟨by unfold tm; rw [if_neg h1, if_pos h2], X1⟩
    · refine Go.by (fun t9_ q9_ => XS.ifYes W160.here W160.hx rfl (pc0 := 6) (pc' := 25) rfl (hb hby dc6_6) rfl ((if0 _ _).trans (teq (by rw [if_neg h1, if_neg h2])).1) (by decide) (by decide) q9_) ?_
      refine Go.by (fun t9_ q9_ => XS.lconst W160.here W160.hx rfl (hb hby dc6_25) q9_) ?_
      show Go _ _ _ _ _ _ _ _ _ (T159.setTop (mkF m 26 #[.val (.int ii), .val (.int lo), .val (.int hi), .val (.long dd), .second] [(.long (0 : Int64))]))
      exact W160.retJ (by decide) (by decide) hret (hb hby dc6_26) ⟨by unfold tm; rw [if_neg h1, if_neg h2], Ext.refl' _⟩
def numr : List Int32 → Int32 → Int32 → Int32 → Int32
  | [], _, _, acc => acc
  | c :: r, i, hi, acc => if i < hi then numr r (i + 1) hi (acc * 10 + c - 48) else acc
theorem numr_c (c : Int32) (r : List Int32) (i hi acc : Int32) : numr (c :: r) i hi acc = if i < hi then numr r (i + 1) hi (acc * 10 + c - 48) else acc := rfl
def num10 (cs : List Int32) (lo hi : Int32) : Int32 := numr (cs.drop lo.toNatClampNeg) lo hi 0
theorem c_num (l : Launch) (Z : State) (a0 : Array Value) (hw : HW Z a0) (hEL : EW Z a0 []) (h0 : Heap) (hE0 : Ext Z.heap h0) (r : Addr) (u0 u1 u2 u3 u4 u5 u6 u7 u8 u9 lo hi G1 : Int32) (fm : Value) (SG1 : Sta Z Z.heap "java/lang/String" "COMPACT_STRINGS" "Z" (.int G1)) (hG : ¬ G1 = 0) (SFM : Sta Z Z.heap "jdk/internal/util/Preconditions" "SIOOBE_FORMATTER" "Ljava/util/function/BiFunction;" fm) (rfm : fm.isRef = true) (SR : Str Z h0 r [u0, u1, u2, u3, u4, u5, u6, u7, u8, u9]) (hlat : ∀ c ∈ [u0, u1, u2, u3, u4, u5, u6, u7, u8, u9], ¬ (255 : Int32) < c) (hlo : lo = (0 : Int32) ∨ lo = (1 : Int32) ∨ lo = (2 : Int32) ∨ lo = (3 : Int32) ∨ lo = (4 : Int32) ∨ lo = (5 : Int32) ∨ lo = (6 : Int32) ∨ lo = (7 : Int32) ∨ lo = (8 : Int32) ∨ lo = (9 : Int32) ∨ lo = (10 : Int32)) (hhi : ¬ (10 : Int32) < hi) :
    Con l Z [] [] (⟨"com/example/kontraktbuch/kontraktbuch/Notation", "number", "(Ljava/lang/String;II)I"⟩ : MethodName) prog_29_method_12_code 5 (some .int) [] (⟨5, 0, 0, 60⟩ : Room) #[(.ref r), (.int lo), (.int hi)] h0 (fun v h' => v = some (.int (num10 [u0, u1, u2, u3, u4, u5, u6, u7, u8, u9] lo hi)) ∧ h' = h0) := by
  refine Con.mk (plainFor_of_name pn_1) hEL hE0 (fun x hx => by cases hx) ?_
  intro p e s m below meth c T0 hby hml hret hnm W0
  rw [(show entryFrame m #[(.ref r), (.int lo), (.int hi)] 5 = mkF m 0 #[.val (.ref r), .val (.int lo), .val (.int hi), .unset, .unset] [] from by first | (simp [entryFrame, mkF, argsToLocals, Value.category]; done) | rfl)]
  have J10 : ∀ (T166 : State) (acc : Int32), Wk p l e (⟨5, 0, 0, 60⟩ : Room) s m #[(.ref r), (.int lo), (.int hi)] below meth c Z a0 [] "com/example/kontraktbuch/kontraktbuch/Notation" [] T166 h0 0 0 → num10 [u0, u1, u2, u3, u4, u5, u6, u7, u8, u9] lo hi = numr [] (10 : Int32) hi acc → Go p e below s Z [] (⟨5, 0, 0, 60⟩ : Room).cells (⟨5, 0, 0, 60⟩ : Room).slots (fun v h' => v = some (.int (num10 [u0, u1, u2, u3, u4, u5, u6, u7, u8, u9] lo hi)) ∧ h' = h0) (T166.setTop (mkF m 5 #[.val (.ref r), .val (.int lo), .val (.int hi), .val (.int acc), .val (.int (10 : Int32))] [])) := by
    intro T166 acc W167 hq
    refine Go.by (fun t9_ q9_ => XS.iload W167.here W167.hx rfl (hb hby dc7_5) rfl (XS.iloadN W167.here W167.hx rfl (hb hby dc7_7) rfl q9_)) ?_
    refine Go.by (fun t9_ q9_ => XS.icmpYes W167.here W167.hx rfl (pc0 := 8) (pc' := 32) rfl (hb hby dc7_8) rfl (flt hhi).2.1 (by decide) (by decide) q9_) ?_
    refine Go.by (fun t9_ q9_ => XS.iloadN W167.here W167.hx rfl (hb hby dc7_32) rfl q9_) ?_
    show Go _ _ _ _ _ _ _ _ _ (T166.setTop (mkF m 33 #[.val (.ref r), .val (.int lo), .val (.int hi), .val (.int acc), .val (.int (10 : Int32))] [(.int acc)]))
    exact W167.retI (by decide) (by decide) hret (hb hby dc7_33) ⟨by rw [hq]; rfl, rfl⟩
  have J9 : ∀ (T168 : State) (acc : Int32), Wk p l e (⟨5, 0, 0, 60⟩ : Room) s m #[(.ref r), (.int lo), (.int hi)] below meth c Z a0 [] "com/example/kontraktbuch/kontraktbuch/Notation" [] T168 h0 0 0 → num10 [u0, u1, u2, u3, u4, u5, u6, u7, u8, u9] lo hi = numr [u9] (9 : Int32) hi acc → Go p e below s Z [] (⟨5, 0, 0, 60⟩ : Room).cells (⟨5, 0, 0, 60⟩ : Room).slots (fun v h' => v = some (.int (num10 [u0, u1, u2, u3, u4, u5, u6, u7, u8, u9] lo hi)) ∧ h' = h0) (T168.setTop (mkF m 5 #[.val (.ref r), .val (.int lo), .val (.int hi), .val (.int acc), .val (.int (9 : Int32))] [])) := by
    intro T168 acc W169 hq
    refine Go.by (fun t9_ q9_ => XS.iload W169.here W169.hx rfl (hb hby dc7_5) rfl (XS.iloadN W169.here W169.hx rfl (hb hby dc7_7) rfl q9_)) ?_
    by_cases g_ : (9 : Int32) < hi
    · refine Go.by (fun t9_ q9_ => XS.icmpNo W169.here W169.hx rfl (hb hby dc7_8) rfl (tlt g_).2.1 q9_) ?_
      refine Go.by (fun t9_ q9_ => XS.iloadN W169.here W169.hx rfl (hb hby dc7_11) rfl (XS.bipush W169.here W169.hx rfl (hb hby dc7_12) (XS.imul W169.here W169.hx rfl (hb hby dc7_14) rfl (XS.aloadN W169.here W169.hx rfl (hb hby dc7_15) rfl rfl (XS.iload W169.here W169.hx rfl (hb hby dc7_16) rfl q9_))))) ?_
      show Go _ _ _ _ _ _ _ _ _ (T168.setTop (mkF m 18 #[.val (.ref r), .val (.int lo), .val (.int hi), .val (.int acc), .val (.int (9 : Int32))] [(.int (9 : Int32)), (.ref r), (.int (acc * (10 : Int32)))]))
      refine W169.strCh (k_ch hw) (wd21 hw) (wd69 hw) (wd70 hw) (wd72 hw) (wd71 hw) SR hlat (by simp) (SG1.ext W169.old) hG (SFM.ext W169.old) rfm (i := 9) (by simp) rfl (by decide) (Wt := 1) (by decide) (by rw [hml]; rfl) (Nat.le_of_eq rfl) (by decide) (by decide) (hb hby dc7_18) ?_
      intro T170 W171
      refine Go.by (fun t9_ q9_ => XS.iadd W171.here W171.hx rfl (hb hby dc7_21) rfl (XS.bipush W171.here W171.hx rfl (hb hby dc7_22) (XS.isub W171.here W171.hx rfl (hb hby dc7_24) rfl (XS.istoreN W171.here W171.hx rfl (hb hby dc7_25) rfl (l' := #[.val (.ref r), .val (.int lo), .val (.int hi), .val (.int (((acc * (10 : Int32)) + u9) - (48 : Int32))), .val (.int (9 : Int32))]) rfl q9_)))) ?_
      refine Go.by (fun t9_ q9_ => XS.iinc W171.here W171.hx rfl (hb hby dc7_26) rfl (l' := #[.val (.ref r), .val (.int lo), .val (.int hi), .val (.int (((acc * (10 : Int32)) + u9) - (48 : Int32))), .val (.int ((9 : Int32) + (1 : Int32)))]) rfl q9_) ?_
      show Go _ _ _ _ _ _ _ _ _ (T170.setTop (mkF m 29 #[.val (.ref r), .val (.int lo), .val (.int hi), .val (.int (((acc * (10 : Int32)) + u9) - (48 : Int32))), .val (.int (10 : Int32))] []))
      refine Go.by (fun t9_ q9_ => XS.goto W171.here W171.hx rfl (pc0 := 29) (pc' := 5) rfl (hb hby dc7_29) (by decide) (by decide) q9_) ?_
      show Go _ _ _ _ _ _ _ _ _ (T170.setTop (mkF m 5 #[.val (.ref r), .val (.int lo), .val (.int hi), .val (.int (((acc * (10 : Int32)) + u9) - (48 : Int32))), .val (.int (10 : Int32))] []))
      exact J10 _ _ W171 (by rw [hq, numr_c, if_pos g_]; first | done | rfl)
    · refine Go.by (fun t9_ q9_ => XS.icmpYes W169.here W169.hx rfl (pc0 := 8) (pc' := 32) rfl (hb hby dc7_8) rfl (flt g_).2.1 (by decide) (by decide) q9_) ?_
      refine Go.by (fun t9_ q9_ => XS.iloadN W169.here W169.hx rfl (hb hby dc7_32) rfl q9_) ?_
      show Go _ _ _ _ _ _ _ _ _ (T168.setTop (mkF m 33 #[.val (.ref r), .val (.int lo), .val (.int hi), .val (.int acc), .val (.int (9 : Int32))] [(.int acc)]))
      exact W169.retI (by decide) (by decide) hret (hb hby dc7_33) ⟨by rw [hq, numr_c, if_neg g_], rfl⟩
  have J8 : ∀ (T172 : State) (acc : Int32), Wk p l e (⟨5, 0, 0, 60⟩ : Room) s m #[(.ref r), (.int lo), (.int hi)] below meth c Z a0 [] "com/example/kontraktbuch/kontraktbuch/Notation" [] T172 h0 0 0 → num10 [u0, u1, u2, u3, u4, u5, u6, u7, u8, u9] lo hi = numr [u8, u9] (8 : Int32) hi acc → Go p e below s Z [] (⟨5, 0, 0, 60⟩ : Room).cells (⟨5, 0, 0, 60⟩ : Room).slots (fun v h' => v = some (.int (num10 [u0, u1, u2, u3, u4, u5, u6, u7, u8, u9] lo hi)) ∧ h' = h0) (T172.setTop (mkF m 5 #[.val (.ref r), .val (.int lo), .val (.int hi), .val (.int acc), .val (.int (8 : Int32))] [])) := by
    intro T172 acc W173 hq
    refine Go.by (fun t9_ q9_ => XS.iload W173.here W173.hx rfl (hb hby dc7_5) rfl (XS.iloadN W173.here W173.hx rfl (hb hby dc7_7) rfl q9_)) ?_
    by_cases g_ : (8 : Int32) < hi
    · refine Go.by (fun t9_ q9_ => XS.icmpNo W173.here W173.hx rfl (hb hby dc7_8) rfl (tlt g_).2.1 q9_) ?_
      refine Go.by (fun t9_ q9_ => XS.iloadN W173.here W173.hx rfl (hb hby dc7_11) rfl (XS.bipush W173.here W173.hx rfl (hb hby dc7_12) (XS.imul W173.here W173.hx rfl (hb hby dc7_14) rfl (XS.aloadN W173.here W173.hx rfl (hb hby dc7_15) rfl rfl (XS.iload W173.here W173.hx rfl (hb hby dc7_16) rfl q9_))))) ?_
      show Go _ _ _ _ _ _ _ _ _ (T172.setTop (mkF m 18 #[.val (.ref r), .val (.int lo), .val (.int hi), .val (.int acc), .val (.int (8 : Int32))] [(.int (8 : Int32)), (.ref r), (.int (acc * (10 : Int32)))]))
      refine W173.strCh (k_ch hw) (wd21 hw) (wd69 hw) (wd70 hw) (wd72 hw) (wd71 hw) SR hlat (by simp) (SG1.ext W173.old) hG (SFM.ext W173.old) rfm (i := 8) (by simp) rfl (by decide) (Wt := 1) (by decide) (by rw [hml]; rfl) (Nat.le_of_eq rfl) (by decide) (by decide) (hb hby dc7_18) ?_
      intro T174 W175
      refine Go.by (fun t9_ q9_ => XS.iadd W175.here W175.hx rfl (hb hby dc7_21) rfl (XS.bipush W175.here W175.hx rfl (hb hby dc7_22) (XS.isub W175.here W175.hx rfl (hb hby dc7_24) rfl (XS.istoreN W175.here W175.hx rfl (hb hby dc7_25) rfl (l' := #[.val (.ref r), .val (.int lo), .val (.int hi), .val (.int (((acc * (10 : Int32)) + u8) - (48 : Int32))), .val (.int (8 : Int32))]) rfl q9_)))) ?_
      refine Go.by (fun t9_ q9_ => XS.iinc W175.here W175.hx rfl (hb hby dc7_26) rfl (l' := #[.val (.ref r), .val (.int lo), .val (.int hi), .val (.int (((acc * (10 : Int32)) + u8) - (48 : Int32))), .val (.int ((8 : Int32) + (1 : Int32)))]) rfl q9_) ?_
      show Go _ _ _ _ _ _ _ _ _ (T174.setTop (mkF m 29 #[.val (.ref r), .val (.int lo), .val (.int hi), .val (.int (((acc * (10 : Int32)) + u8) - (48 : Int32))), .val (.int (9 : Int32))] []))
      refine Go.by (fun t9_ q9_ => XS.goto W175.here W175.hx rfl (pc0 := 29) (pc' := 5) rfl (hb hby dc7_29) (by decide) (by decide) q9_) ?_
      show Go _ _ _ _ _ _ _ _ _ (T174.setTop (mkF m 5 #[.val (.ref r), .val (.int lo), .val (.int hi), .val (.int (((acc * (10 : Int32)) + u8) - (48 : Int32))), .val (.int (9 : Int32))] []))
      exact J9 _ _ W175 (by rw [hq, numr_c, if_pos g_]; first | done | rfl)
    · refine Go.by (fun t9_ q9_ => XS.icmpYes W173.here W173.hx rfl (pc0 := 8) (pc' := 32) rfl (hb hby dc7_8) rfl (flt g_).2.1 (by decide) (by decide) q9_) ?_
      refine Go.by (fun t9_ q9_ => XS.iloadN W173.here W173.hx rfl (hb hby dc7_32) rfl q9_) ?_
      show Go _ _ _ _ _ _ _ _ _ (T172.setTop (mkF m 33 #[.val (.ref r), .val (.int lo), .val (.int hi), .val (.int acc), .val (.int (8 : Int32))] [(.int acc)]))
      exact W173.retI (by decide) (by decide) hret (hb hby dc7_33) ⟨by rw [hq, numr_c, if_neg g_], rfl⟩
  have J7 : ∀ (T176 : State) (acc : Int32), Wk p l e (⟨5, 0, 0, 60⟩ : Room) s m #[(.ref r), (.int lo), (.int hi)] below meth c Z a0 [] "com/example/kontraktbuch/kontraktbuch/Notation" [] T176 h0 0 0 → num10 [u0, u1, u2, u3, u4, u5, u6, u7, u8, u9] lo hi = numr [u7, u8, u9] (7 : Int32) hi acc → Go p e below s Z [] (⟨5, 0, 0, 60⟩ : Room).cells (⟨5, 0, 0, 60⟩ : Room).slots (fun v h' => v = some (.int (num10 [u0, u1, u2, u3, u4, u5, u6, u7, u8, u9] lo hi)) ∧ h' = h0) (T176.setTop (mkF m 5 #[.val (.ref r), .val (.int lo), .val (.int hi), .val (.int acc), .val (.int (7 : Int32))] [])) := by
    intro T176 acc W177 hq
    refine Go.by (fun t9_ q9_ => XS.iload W177.here W177.hx rfl (hb hby dc7_5) rfl (XS.iloadN W177.here W177.hx rfl (hb hby dc7_7) rfl q9_)) ?_
    by_cases g_ : (7 : Int32) < hi
    · refine Go.by (fun t9_ q9_ => XS.icmpNo W177.here W177.hx rfl (hb hby dc7_8) rfl (tlt g_).2.1 q9_) ?_
      refine Go.by (fun t9_ q9_ => XS.iloadN W177.here W177.hx rfl (hb hby dc7_11) rfl (XS.bipush W177.here W177.hx rfl (hb hby dc7_12) (XS.imul W177.here W177.hx rfl (hb hby dc7_14) rfl (XS.aloadN W177.here W177.hx rfl (hb hby dc7_15) rfl rfl (XS.iload W177.here W177.hx rfl (hb hby dc7_16) rfl q9_))))) ?_
      show Go _ _ _ _ _ _ _ _ _ (T176.setTop (mkF m 18 #[.val (.ref r), .val (.int lo), .val (.int hi), .val (.int acc), .val (.int (7 : Int32))] [(.int (7 : Int32)), (.ref r), (.int (acc * (10 : Int32)))]))
      refine W177.strCh (k_ch hw) (wd21 hw) (wd69 hw) (wd70 hw) (wd72 hw) (wd71 hw) SR hlat (by simp) (SG1.ext W177.old) hG (SFM.ext W177.old) rfm (i := 7) (by simp) rfl (by decide) (Wt := 1) (by decide) (by rw [hml]; rfl) (Nat.le_of_eq rfl) (by decide) (by decide) (hb hby dc7_18) ?_
      intro T178 W179
      refine Go.by (fun t9_ q9_ => XS.iadd W179.here W179.hx rfl (hb hby dc7_21) rfl (XS.bipush W179.here W179.hx rfl (hb hby dc7_22) (XS.isub W179.here W179.hx rfl (hb hby dc7_24) rfl (XS.istoreN W179.here W179.hx rfl (hb hby dc7_25) rfl (l' := #[.val (.ref r), .val (.int lo), .val (.int hi), .val (.int (((acc * (10 : Int32)) + u7) - (48 : Int32))), .val (.int (7 : Int32))]) rfl q9_)))) ?_
      refine Go.by (fun t9_ q9_ => XS.iinc W179.here W179.hx rfl (hb hby dc7_26) rfl (l' := #[.val (.ref r), .val (.int lo), .val (.int hi), .val (.int (((acc * (10 : Int32)) + u7) - (48 : Int32))), .val (.int ((7 : Int32) + (1 : Int32)))]) rfl q9_) ?_
      show Go _ _ _ _ _ _ _ _ _ (T178.setTop (mkF m 29 #[.val (.ref r), .val (.int lo), .val (.int hi), .val (.int (((acc * (10 : Int32)) + u7) - (48 : Int32))), .val (.int (8 : Int32))] []))
      refine Go.by (fun t9_ q9_ => XS.goto W179.here W179.hx rfl (pc0 := 29) (pc' := 5) rfl (hb hby dc7_29) (by decide) (by decide) q9_) ?_
      show Go _ _ _ _ _ _ _ _ _ (T178.setTop (mkF m 5 #[.val (.ref r), .val (.int lo), .val (.int hi), .val (.int (((acc * (10 : Int32)) + u7) - (48 : Int32))), .val (.int (8 : Int32))] []))
      exact J8 _ _ W179 (by rw [hq, numr_c, if_pos g_]; first | done | rfl)
    · refine Go.by (fun t9_ q9_ => XS.icmpYes W177.here W177.hx rfl (pc0 := 8) (pc' := 32) rfl (hb hby dc7_8) rfl (flt g_).2.1 (by decide) (by decide) q9_) ?_
      refine Go.by (fun t9_ q9_ => XS.iloadN W177.here W177.hx rfl (hb hby dc7_32) rfl q9_) ?_
      show Go _ _ _ _ _ _ _ _ _ (T176.setTop (mkF m 33 #[.val (.ref r), .val (.int lo), .val (.int hi), .val (.int acc), .val (.int (7 : Int32))] [(.int acc)]))
      exact W177.retI (by decide) (by decide) hret (hb hby dc7_33) ⟨by rw [hq, numr_c, if_neg g_], rfl⟩
  have J6 : ∀ (T180 : State) (acc : Int32), Wk p l e (⟨5, 0, 0, 60⟩ : Room) s m #[(.ref r), (.int lo), (.int hi)] below meth c Z a0 [] "com/example/kontraktbuch/kontraktbuch/Notation" [] T180 h0 0 0 → num10 [u0, u1, u2, u3, u4, u5, u6, u7, u8, u9] lo hi = numr [u6, u7, u8, u9] (6 : Int32) hi acc → Go p e below s Z [] (⟨5, 0, 0, 60⟩ : Room).cells (⟨5, 0, 0, 60⟩ : Room).slots (fun v h' => v = some (.int (num10 [u0, u1, u2, u3, u4, u5, u6, u7, u8, u9] lo hi)) ∧ h' = h0) (T180.setTop (mkF m 5 #[.val (.ref r), .val (.int lo), .val (.int hi), .val (.int acc), .val (.int (6 : Int32))] [])) := by
    intro T180 acc W181 hq
    refine Go.by (fun t9_ q9_ => XS.iload W181.here W181.hx rfl (hb hby dc7_5) rfl (XS.iloadN W181.here W181.hx rfl (hb hby dc7_7) rfl q9_)) ?_
    by_cases g_ : (6 : Int32) < hi
    · refine Go.by (fun t9_ q9_ => XS.icmpNo W181.here W181.hx rfl (hb hby dc7_8) rfl (tlt g_).2.1 q9_) ?_
      refine Go.by (fun t9_ q9_ => XS.iloadN W181.here W181.hx rfl (hb hby dc7_11) rfl (XS.bipush W181.here W181.hx rfl (hb hby dc7_12) (XS.imul W181.here W181.hx rfl (hb hby dc7_14) rfl (XS.aloadN W181.here W181.hx rfl (hb hby dc7_15) rfl rfl (XS.iload W181.here W181.hx rfl (hb hby dc7_16) rfl q9_))))) ?_
      show Go _ _ _ _ _ _ _ _ _ (T180.setTop (mkF m 18 #[.val (.ref r), .val (.int lo), .val (.int hi), .val (.int acc), .val (.int (6 : Int32))] [(.int (6 : Int32)), (.ref r), (.int (acc * (10 : Int32)))]))
      refine W181.strCh (k_ch hw) (wd21 hw) (wd69 hw) (wd70 hw) (wd72 hw) (wd71 hw) SR hlat (by simp) (SG1.ext W181.old) hG (SFM.ext W181.old) rfm (i := 6) (by simp) rfl (by decide) (Wt := 1) (by decide) (by rw [hml]; rfl) (Nat.le_of_eq rfl) (by decide) (by decide) (hb hby dc7_18) ?_
      intro T182 W183
      refine Go.by (fun t9_ q9_ => XS.iadd W183.here W183.hx rfl (hb hby dc7_21) rfl (XS.bipush W183.here W183.hx rfl (hb hby dc7_22) (XS.isub W183.here W183.hx rfl (hb hby dc7_24) rfl (XS.istoreN W183.here W183.hx rfl (hb hby dc7_25) rfl (l' := #[.val (.ref r), .val (.int lo), .val (.int hi), .val (.int (((acc * (10 : Int32)) + u6) - (48 : Int32))), .val (.int (6 : Int32))]) rfl q9_)))) ?_
      refine Go.by (fun t9_ q9_ => XS.iinc W183.here W183.hx rfl (hb hby dc7_26) rfl (l' := #[.val (.ref r), .val (.int lo), .val (.int hi), .val (.int (((acc * (10 : Int32)) + u6) - (48 : Int32))), .val (.int ((6 : Int32) + (1 : Int32)))]) rfl q9_) ?_
      show Go _ _ _ _ _ _ _ _ _ (T182.setTop (mkF m 29 #[.val (.ref r), .val (.int lo), .val (.int hi), .val (.int (((acc * (10 : Int32)) + u6) - (48 : Int32))), .val (.int (7 : Int32))] []))
      refine Go.by (fun t9_ q9_ => XS.goto W183.here W183.hx rfl (pc0 := 29) (pc' := 5) rfl (hb hby dc7_29) (by decide) (by decide) q9_) ?_
      show Go _ _ _ _ _ _ _ _ _ (T182.setTop (mkF m 5 #[.val (.ref r), .val (.int lo), .val (.int hi), .val (.int (((acc * (10 : Int32)) + u6) - (48 : Int32))), .val (.int (7 : Int32))] []))
      exact J7 _ _ W183 (by rw [hq, numr_c, if_pos g_]; first | done | rfl)
    · refine Go.by (fun t9_ q9_ => XS.icmpYes W181.here W181.hx rfl (pc0 := 8) (pc' := 32) rfl (hb hby dc7_8) rfl (flt g_).2.1 (by decide) (by decide) q9_) ?_
      refine Go.by (fun t9_ q9_ => XS.iloadN W181.here W181.hx rfl (hb hby dc7_32) rfl q9_) ?_
      show Go _ _ _ _ _ _ _ _ _ (T180.setTop (mkF m 33 #[.val (.ref r), .val (.int lo), .val (.int hi), .val (.int acc), .val (.int (6 : Int32))] [(.int acc)]))
      exact W181.retI (by decide) (by decide) hret (hb hby dc7_33) ⟨by rw [hq, numr_c, if_neg g_], rfl⟩
  have J5 : ∀ (T184 : State) (acc : Int32), Wk p l e (⟨5, 0, 0, 60⟩ : Room) s m #[(.ref r), (.int lo), (.int hi)] below meth c Z a0 [] "com/example/kontraktbuch/kontraktbuch/Notation" [] T184 h0 0 0 → num10 [u0, u1, u2, u3, u4, u5, u6, u7, u8, u9] lo hi = numr [u5, u6, u7, u8, u9] (5 : Int32) hi acc → Go p e below s Z [] (⟨5, 0, 0, 60⟩ : Room).cells (⟨5, 0, 0, 60⟩ : Room).slots (fun v h' => v = some (.int (num10 [u0, u1, u2, u3, u4, u5, u6, u7, u8, u9] lo hi)) ∧ h' = h0) (T184.setTop (mkF m 5 #[.val (.ref r), .val (.int lo), .val (.int hi), .val (.int acc), .val (.int (5 : Int32))] [])) := by
    intro T184 acc W185 hq
    refine Go.by (fun t9_ q9_ => XS.iload W185.here W185.hx rfl (hb hby dc7_5) rfl (XS.iloadN W185.here W185.hx rfl (hb hby dc7_7) rfl q9_)) ?_
    by_cases g_ : (5 : Int32) < hi
    · refine Go.by (fun t9_ q9_ => XS.icmpNo W185.here W185.hx rfl (hb hby dc7_8) rfl (tlt g_).2.1 q9_) ?_
      refine Go.by (fun t9_ q9_ => XS.iloadN W185.here W185.hx rfl (hb hby dc7_11) rfl (XS.bipush W185.here W185.hx rfl (hb hby dc7_12) (XS.imul W185.here W185.hx rfl (hb hby dc7_14) rfl (XS.aloadN W185.here W185.hx rfl (hb hby dc7_15) rfl rfl (XS.iload W185.here W185.hx rfl (hb hby dc7_16) rfl q9_))))) ?_
      show Go _ _ _ _ _ _ _ _ _ (T184.setTop (mkF m 18 #[.val (.ref r), .val (.int lo), .val (.int hi), .val (.int acc), .val (.int (5 : Int32))] [(.int (5 : Int32)), (.ref r), (.int (acc * (10 : Int32)))]))
      refine W185.strCh (k_ch hw) (wd21 hw) (wd69 hw) (wd70 hw) (wd72 hw) (wd71 hw) SR hlat (by simp) (SG1.ext W185.old) hG (SFM.ext W185.old) rfm (i := 5) (by simp) rfl (by decide) (Wt := 1) (by decide) (by rw [hml]; rfl) (Nat.le_of_eq rfl) (by decide) (by decide) (hb hby dc7_18) ?_
      intro T186 W187
      refine Go.by (fun t9_ q9_ => XS.iadd W187.here W187.hx rfl (hb hby dc7_21) rfl (XS.bipush W187.here W187.hx rfl (hb hby dc7_22) (XS.isub W187.here W187.hx rfl (hb hby dc7_24) rfl (XS.istoreN W187.here W187.hx rfl (hb hby dc7_25) rfl (l' := #[.val (.ref r), .val (.int lo), .val (.int hi), .val (.int (((acc * (10 : Int32)) + u5) - (48 : Int32))), .val (.int (5 : Int32))]) rfl q9_)))) ?_
      refine Go.by (fun t9_ q9_ => XS.iinc W187.here W187.hx rfl (hb hby dc7_26) rfl (l' := #[.val (.ref r), .val (.int lo), .val (.int hi), .val (.int (((acc * (10 : Int32)) + u5) - (48 : Int32))), .val (.int ((5 : Int32) + (1 : Int32)))]) rfl q9_) ?_
      show Go _ _ _ _ _ _ _ _ _ (T186.setTop (mkF m 29 #[.val (.ref r), .val (.int lo), .val (.int hi), .val (.int (((acc * (10 : Int32)) + u5) - (48 : Int32))), .val (.int (6 : Int32))] []))
      refine Go.by (fun t9_ q9_ => XS.goto W187.here W187.hx rfl (pc0 := 29) (pc' := 5) rfl (hb hby dc7_29) (by decide) (by decide) q9_) ?_
      show Go _ _ _ _ _ _ _ _ _ (T186.setTop (mkF m 5 #[.val (.ref r), .val (.int lo), .val (.int hi), .val (.int (((acc * (10 : Int32)) + u5) - (48 : Int32))), .val (.int (6 : Int32))] []))
      exact J6 _ _ W187 (by rw [hq, numr_c, if_pos g_]; first | done | rfl)
    · refine Go.by (fun t9_ q9_ => XS.icmpYes W185.here W185.hx rfl (pc0 := 8) (pc' := 32) rfl (hb hby dc7_8) rfl (flt g_).2.1 (by decide) (by decide) q9_) ?_
      refine Go.by (fun t9_ q9_ => XS.iloadN W185.here W185.hx rfl (hb hby dc7_32) rfl q9_) ?_
      show Go _ _ _ _ _ _ _ _ _ (T184.setTop (mkF m 33 #[.val (.ref r), .val (.int lo), .val (.int hi), .val (.int acc), .val (.int (5 : Int32))] [(.int acc)]))
      exact W185.retI (by decide) (by decide) hret (hb hby dc7_33) ⟨by rw [hq, numr_c, if_neg g_], rfl⟩
  have J4 : ∀ (T188 : State) (acc : Int32), Wk p l e (⟨5, 0, 0, 60⟩ : Room) s m #[(.ref r), (.int lo), (.int hi)] below meth c Z a0 [] "com/example/kontraktbuch/kontraktbuch/Notation" [] T188 h0 0 0 → num10 [u0, u1, u2, u3, u4, u5, u6, u7, u8, u9] lo hi = numr [u4, u5, u6, u7, u8, u9] (4 : Int32) hi acc → Go p e below s Z [] (⟨5, 0, 0, 60⟩ : Room).cells (⟨5, 0, 0, 60⟩ : Room).slots (fun v h' => v = some (.int (num10 [u0, u1, u2, u3, u4, u5, u6, u7, u8, u9] lo hi)) ∧ h' = h0) (T188.setTop (mkF m 5 #[.val (.ref r), .val (.int lo), .val (.int hi), .val (.int acc), .val (.int (4 : Int32))] [])) := by
    intro T188 acc W189 hq
    refine Go.by (fun t9_ q9_ => XS.iload W189.here W189.hx rfl (hb hby dc7_5) rfl (XS.iloadN W189.here W189.hx rfl (hb hby dc7_7) rfl q9_)) ?_
    by_cases g_ : (4 : Int32) < hi
    · refine Go.by (fun t9_ q9_ => XS.icmpNo W189.here W189.hx rfl (hb hby dc7_8) rfl (tlt g_).2.1 q9_) ?_
      refine Go.by (fun t9_ q9_ => XS.iloadN W189.here W189.hx rfl (hb hby dc7_11) rfl (XS.bipush W189.here W189.hx rfl (hb hby dc7_12) (XS.imul W189.here W189.hx rfl (hb hby dc7_14) rfl (XS.aloadN W189.here W189.hx rfl (hb hby dc7_15) rfl rfl (XS.iload W189.here W189.hx rfl (hb hby dc7_16) rfl q9_))))) ?_
      show Go _ _ _ _ _ _ _ _ _ (T188.setTop (mkF m 18 #[.val (.ref r), .val (.int lo), .val (.int hi), .val (.int acc), .val (.int (4 : Int32))] [(.int (4 : Int32)), (.ref r), (.int (acc * (10 : Int32)))]))
      refine W189.strCh (k_ch hw) (wd21 hw) (wd69 hw) (wd70 hw) (wd72 hw) (wd71 hw) SR hlat (by simp) (SG1.ext W189.old) hG (SFM.ext W189.old) rfm (i := 4) (by simp) rfl (by decide) (Wt := 1) (by decide) (by rw [hml]; rfl) (Nat.le_of_eq rfl) (by decide) (by decide) (hb hby dc7_18) ?_
      intro T190 W191
      refine Go.by (fun t9_ q9_ => XS.iadd W191.here W191.hx rfl (hb hby dc7_21) rfl (XS.bipush W191.here W191.hx rfl (hb hby dc7_22) (XS.isub W191.here W191.hx rfl (hb hby dc7_24) rfl (XS.istoreN W191.here W191.hx rfl (hb hby dc7_25) rfl (l' := #[.val (.ref r), .val (.int lo), .val (.int hi), .val (.int (((acc * (10 : Int32)) + u4) - (48 : Int32))), .val (.int (4 : Int32))]) rfl q9_)))) ?_
      refine Go.by (fun t9_ q9_ => XS.iinc W191.here W191.hx rfl (hb hby dc7_26) rfl (l' := #[.val (.ref r), .val (.int lo), .val (.int hi), .val (.int (((acc * (10 : Int32)) + u4) - (48 : Int32))), .val (.int ((4 : Int32) + (1 : Int32)))]) rfl q9_) ?_
      show Go _ _ _ _ _ _ _ _ _ (T190.setTop (mkF m 29 #[.val (.ref r), .val (.int lo), .val (.int hi), .val (.int (((acc * (10 : Int32)) + u4) - (48 : Int32))), .val (.int (5 : Int32))] []))
      refine Go.by (fun t9_ q9_ => XS.goto W191.here W191.hx rfl (pc0 := 29) (pc' := 5) rfl (hb hby dc7_29) (by decide) (by decide) q9_) ?_
      show Go _ _ _ _ _ _ _ _ _ (T190.setTop (mkF m 5 #[.val (.ref r), .val (.int lo), .val (.int hi), .val (.int (((acc * (10 : Int32)) + u4) - (48 : Int32))), .val (.int (5 : Int32))] []))
      exact J5 _ _ W191 (by rw [hq, numr_c, if_pos g_]; first | done | rfl)
    · refine Go.by (fun t9_ q9_ => XS.icmpYes W189.here W189.hx rfl (pc0 := 8) (pc' := 32) rfl (hb hby dc7_8) rfl (flt g_).2.1 (by decide) (by decide) q9_) ?_
      refine Go.by (fun t9_ q9_ => XS.iloadN W189.here W189.hx rfl (hb hby dc7_32) rfl q9_) ?_
      show Go _ _ _ _ _ _ _ _ _ (T188.setTop (mkF m 33 #[.val (.ref r), .val (.int lo), .val (.int hi), .val (.int acc), .val (.int (4 : Int32))] [(.int acc)]))
      exact W189.retI (by decide) (by decide) hret (hb hby dc7_33) ⟨by rw [hq, numr_c, if_neg g_], rfl⟩
  have J3 : ∀ (T192 : State) (acc : Int32), Wk p l e (⟨5, 0, 0, 60⟩ : Room) s m #[(.ref r), (.int lo), (.int hi)] below meth c Z a0 [] "com/example/kontraktbuch/kontraktbuch/Notation" [] T192 h0 0 0 → num10 [u0, u1, u2, u3, u4, u5, u6, u7, u8, u9] lo hi = numr [u3, u4, u5, u6, u7, u8, u9] (3 : Int32) hi acc → Go p e below s Z [] (⟨5, 0, 0, 60⟩ : Room).cells (⟨5, 0, 0, 60⟩ : Room).slots (fun v h' => v = some (.int (num10 [u0, u1, u2, u3, u4, u5, u6, u7, u8, u9] lo hi)) ∧ h' = h0) (T192.setTop (mkF m 5 #[.val (.ref r), .val (.int lo), .val (.int hi), .val (.int acc), .val (.int (3 : Int32))] [])) := by
    intro T192 acc W193 hq
    refine Go.by (fun t9_ q9_ => XS.iload W193.here W193.hx rfl (hb hby dc7_5) rfl (XS.iloadN W193.here W193.hx rfl (hb hby dc7_7) rfl q9_)) ?_
    by_cases g_ : (3 : Int32) < hi
    · refine Go.by (fun t9_ q9_ => XS.icmpNo W193.here W193.hx rfl (hb hby dc7_8) rfl (tlt g_).2.1 q9_) ?_
      refine Go.by (fun t9_ q9_ => XS.iloadN W193.here W193.hx rfl (hb hby dc7_11) rfl (XS.bipush W193.here W193.hx rfl (hb hby dc7_12) (XS.imul W193.here W193.hx rfl (hb hby dc7_14) rfl (XS.aloadN W193.here W193.hx rfl (hb hby dc7_15) rfl rfl (XS.iload W193.here W193.hx rfl (hb hby dc7_16) rfl q9_))))) ?_
      show Go _ _ _ _ _ _ _ _ _ (T192.setTop (mkF m 18 #[.val (.ref r), .val (.int lo), .val (.int hi), .val (.int acc), .val (.int (3 : Int32))] [(.int (3 : Int32)), (.ref r), (.int (acc * (10 : Int32)))]))
      refine W193.strCh (k_ch hw) (wd21 hw) (wd69 hw) (wd70 hw) (wd72 hw) (wd71 hw) SR hlat (by simp) (SG1.ext W193.old) hG (SFM.ext W193.old) rfm (i := 3) (by simp) rfl (by decide) (Wt := 1) (by decide) (by rw [hml]; rfl) (Nat.le_of_eq rfl) (by decide) (by decide) (hb hby dc7_18) ?_
      intro T194 W195
      refine Go.by (fun t9_ q9_ => XS.iadd W195.here W195.hx rfl (hb hby dc7_21) rfl (XS.bipush W195.here W195.hx rfl (hb hby dc7_22) (XS.isub W195.here W195.hx rfl (hb hby dc7_24) rfl (XS.istoreN W195.here W195.hx rfl (hb hby dc7_25) rfl (l' := #[.val (.ref r), .val (.int lo), .val (.int hi), .val (.int (((acc * (10 : Int32)) + u3) - (48 : Int32))), .val (.int (3 : Int32))]) rfl q9_)))) ?_
      refine Go.by (fun t9_ q9_ => XS.iinc W195.here W195.hx rfl (hb hby dc7_26) rfl (l' := #[.val (.ref r), .val (.int lo), .val (.int hi), .val (.int (((acc * (10 : Int32)) + u3) - (48 : Int32))), .val (.int ((3 : Int32) + (1 : Int32)))]) rfl q9_) ?_
      show Go _ _ _ _ _ _ _ _ _ (T194.setTop (mkF m 29 #[.val (.ref r), .val (.int lo), .val (.int hi), .val (.int (((acc * (10 : Int32)) + u3) - (48 : Int32))), .val (.int (4 : Int32))] []))
      refine Go.by (fun t9_ q9_ => XS.goto W195.here W195.hx rfl (pc0 := 29) (pc' := 5) rfl (hb hby dc7_29) (by decide) (by decide) q9_) ?_
      show Go _ _ _ _ _ _ _ _ _ (T194.setTop (mkF m 5 #[.val (.ref r), .val (.int lo), .val (.int hi), .val (.int (((acc * (10 : Int32)) + u3) - (48 : Int32))), .val (.int (4 : Int32))] []))
      exact J4 _ _ W195 (by rw [hq, numr_c, if_pos g_]; first | done | rfl)
    · refine Go.by (fun t9_ q9_ => XS.icmpYes W193.here W193.hx rfl (pc0 := 8) (pc' := 32) rfl (hb hby dc7_8) rfl (flt g_).2.1 (by decide) (by decide) q9_) ?_
      refine Go.by (fun t9_ q9_ => XS.iloadN W193.here W193.hx rfl (hb hby dc7_32) rfl q9_) ?_
      show Go _ _ _ _ _ _ _ _ _ (T192.setTop (mkF m 33 #[.val (.ref r), .val (.int lo), .val (.int hi), .val (.int acc), .val (.int (3 : Int32))] [(.int acc)]))
      exact W193.retI (by decide) (by decide) hret (hb hby dc7_33) ⟨by rw [hq, numr_c, if_neg g_], rfl⟩
  have J2 : ∀ (T196 : State) (acc : Int32), Wk p l e (⟨5, 0, 0, 60⟩ : Room) s m #[(.ref r), (.int lo), (.int hi)] below meth c Z a0 [] "com/example/kontraktbuch/kontraktbuch/Notation" [] T196 h0 0 0 → num10 [u0, u1, u2, u3, u4, u5, u6, u7, u8, u9] lo hi = numr [u2, u3, u4, u5, u6, u7, u8, u9] (2 : Int32) hi acc → Go p e below s Z [] (⟨5, 0, 0, 60⟩ : Room).cells (⟨5, 0, 0, 60⟩ : Room).slots (fun v h' => v = some (.int (num10 [u0, u1, u2, u3, u4, u5, u6, u7, u8, u9] lo hi)) ∧ h' = h0) (T196.setTop (mkF m 5 #[.val (.ref r), .val (.int lo), .val (.int hi), .val (.int acc), .val (.int (2 : Int32))] [])) := by
    intro T196 acc W197 hq
    refine Go.by (fun t9_ q9_ => XS.iload W197.here W197.hx rfl (hb hby dc7_5) rfl (XS.iloadN W197.here W197.hx rfl (hb hby dc7_7) rfl q9_)) ?_
    by_cases g_ : (2 : Int32) < hi
    · refine Go.by (fun t9_ q9_ => XS.icmpNo W197.here W197.hx rfl (hb hby dc7_8) rfl (tlt g_).2.1 q9_) ?_
      refine Go.by (fun t9_ q9_ => XS.iloadN W197.here W197.hx rfl (hb hby dc7_11) rfl (XS.bipush W197.here W197.hx rfl (hb hby dc7_12) (XS.imul W197.here W197.hx rfl (hb hby dc7_14) rfl (XS.aloadN W197.here W197.hx rfl (hb hby dc7_15) rfl rfl (XS.iload W197.here W197.hx rfl (hb hby dc7_16) rfl q9_))))) ?_
      show Go _ _ _ _ _ _ _ _ _ (T196.setTop (mkF m 18 #[.val (.ref r), .val (.int lo), .val (.int hi), .val (.int acc), .val (.int (2 : Int32))] [(.int (2 : Int32)), (.ref r), (.int (acc * (10 : Int32)))]))
      refine W197.strCh (k_ch hw) (wd21 hw) (wd69 hw) (wd70 hw) (wd72 hw) (wd71 hw) SR hlat (by simp) (SG1.ext W197.old) hG (SFM.ext W197.old) rfm (i := 2) (by simp) rfl (by decide) (Wt := 1) (by decide) (by rw [hml]; rfl) (Nat.le_of_eq rfl) (by decide) (by decide) (hb hby dc7_18) ?_
      intro T198 W199
      refine Go.by (fun t9_ q9_ => XS.iadd W199.here W199.hx rfl (hb hby dc7_21) rfl (XS.bipush W199.here W199.hx rfl (hb hby dc7_22) (XS.isub W199.here W199.hx rfl (hb hby dc7_24) rfl (XS.istoreN W199.here W199.hx rfl (hb hby dc7_25) rfl (l' := #[.val (.ref r), .val (.int lo), .val (.int hi), .val (.int (((acc * (10 : Int32)) + u2) - (48 : Int32))), .val (.int (2 : Int32))]) rfl q9_)))) ?_
      refine Go.by (fun t9_ q9_ => XS.iinc W199.here W199.hx rfl (hb hby dc7_26) rfl (l' := #[.val (.ref r), .val (.int lo), .val (.int hi), .val (.int (((acc * (10 : Int32)) + u2) - (48 : Int32))), .val (.int ((2 : Int32) + (1 : Int32)))]) rfl q9_) ?_
      show Go _ _ _ _ _ _ _ _ _ (T198.setTop (mkF m 29 #[.val (.ref r), .val (.int lo), .val (.int hi), .val (.int (((acc * (10 : Int32)) + u2) - (48 : Int32))), .val (.int (3 : Int32))] []))
      refine Go.by (fun t9_ q9_ => XS.goto W199.here W199.hx rfl (pc0 := 29) (pc' := 5) rfl (hb hby dc7_29) (by decide) (by decide) q9_) ?_
      show Go _ _ _ _ _ _ _ _ _ (T198.setTop (mkF m 5 #[.val (.ref r), .val (.int lo), .val (.int hi), .val (.int (((acc * (10 : Int32)) + u2) - (48 : Int32))), .val (.int (3 : Int32))] []))
      exact J3 _ _ W199 (by rw [hq, numr_c, if_pos g_]; first | done | rfl)
    · refine Go.by (fun t9_ q9_ => XS.icmpYes W197.here W197.hx rfl (pc0 := 8) (pc' := 32) rfl (hb hby dc7_8) rfl (flt g_).2.1 (by decide) (by decide) q9_) ?_
      refine Go.by (fun t9_ q9_ => XS.iloadN W197.here W197.hx rfl (hb hby dc7_32) rfl q9_) ?_
      show Go _ _ _ _ _ _ _ _ _ (T196.setTop (mkF m 33 #[.val (.ref r), .val (.int lo), .val (.int hi), .val (.int acc), .val (.int (2 : Int32))] [(.int acc)]))
      exact W197.retI (by decide) (by decide) hret (hb hby dc7_33) ⟨by rw [hq, numr_c, if_neg g_], rfl⟩
  have J1 : ∀ (T200 : State) (acc : Int32), Wk p l e (⟨5, 0, 0, 60⟩ : Room) s m #[(.ref r), (.int lo), (.int hi)] below meth c Z a0 [] "com/example/kontraktbuch/kontraktbuch/Notation" [] T200 h0 0 0 → num10 [u0, u1, u2, u3, u4, u5, u6, u7, u8, u9] lo hi = numr [u1, u2, u3, u4, u5, u6, u7, u8, u9] (1 : Int32) hi acc → Go p e below s Z [] (⟨5, 0, 0, 60⟩ : Room).cells (⟨5, 0, 0, 60⟩ : Room).slots (fun v h' => v = some (.int (num10 [u0, u1, u2, u3, u4, u5, u6, u7, u8, u9] lo hi)) ∧ h' = h0) (T200.setTop (mkF m 5 #[.val (.ref r), .val (.int lo), .val (.int hi), .val (.int acc), .val (.int (1 : Int32))] [])) := by
    intro T200 acc W201 hq
    refine Go.by (fun t9_ q9_ => XS.iload W201.here W201.hx rfl (hb hby dc7_5) rfl (XS.iloadN W201.here W201.hx rfl (hb hby dc7_7) rfl q9_)) ?_
    by_cases g_ : (1 : Int32) < hi
    · refine Go.by (fun t9_ q9_ => XS.icmpNo W201.here W201.hx rfl (hb hby dc7_8) rfl (tlt g_).2.1 q9_) ?_
      refine Go.by (fun t9_ q9_ => XS.iloadN W201.here W201.hx rfl (hb hby dc7_11) rfl (XS.bipush W201.here W201.hx rfl (hb hby dc7_12) (XS.imul W201.here W201.hx rfl (hb hby dc7_14) rfl (XS.aloadN W201.here W201.hx rfl (hb hby dc7_15) rfl rfl (XS.iload W201.here W201.hx rfl (hb hby dc7_16) rfl q9_))))) ?_
      show Go _ _ _ _ _ _ _ _ _ (T200.setTop (mkF m 18 #[.val (.ref r), .val (.int lo), .val (.int hi), .val (.int acc), .val (.int (1 : Int32))] [(.int (1 : Int32)), (.ref r), (.int (acc * (10 : Int32)))]))
      refine W201.strCh (k_ch hw) (wd21 hw) (wd69 hw) (wd70 hw) (wd72 hw) (wd71 hw) SR hlat (by simp) (SG1.ext W201.old) hG (SFM.ext W201.old) rfm (i := 1) (by simp) rfl (by decide) (Wt := 1) (by decide) (by rw [hml]; rfl) (Nat.le_of_eq rfl) (by decide) (by decide) (hb hby dc7_18) ?_
      intro T202 W203
      refine Go.by (fun t9_ q9_ => XS.iadd W203.here W203.hx rfl (hb hby dc7_21) rfl (XS.bipush W203.here W203.hx rfl (hb hby dc7_22) (XS.isub W203.here W203.hx rfl (hb hby dc7_24) rfl (XS.istoreN W203.here W203.hx rfl (hb hby dc7_25) rfl (l' := #[.val (.ref r), .val (.int lo), .val (.int hi), .val (.int (((acc * (10 : Int32)) + u1) - (48 : Int32))), .val (.int (1 : Int32))]) rfl q9_)))) ?_
      refine Go.by (fun t9_ q9_ => XS.iinc W203.here W203.hx rfl (hb hby dc7_26) rfl (l' := #[.val (.ref r), .val (.int lo), .val (.int hi), .val (.int (((acc * (10 : Int32)) + u1) - (48 : Int32))), .val (.int ((1 : Int32) + (1 : Int32)))]) rfl q9_) ?_
      show Go _ _ _ _ _ _ _ _ _ (T202.setTop (mkF m 29 #[.val (.ref r), .val (.int lo), .val (.int hi), .val (.int (((acc * (10 : Int32)) + u1) - (48 : Int32))), .val (.int (2 : Int32))] []))
      refine Go.by (fun t9_ q9_ => XS.goto W203.here W203.hx rfl (pc0 := 29) (pc' := 5) rfl (hb hby dc7_29) (by decide) (by decide) q9_) ?_
      show Go _ _ _ _ _ _ _ _ _ (T202.setTop (mkF m 5 #[.val (.ref r), .val (.int lo), .val (.int hi), .val (.int (((acc * (10 : Int32)) + u1) - (48 : Int32))), .val (.int (2 : Int32))] []))
      exact J2 _ _ W203 (by rw [hq, numr_c, if_pos g_]; first | done | rfl)
    · refine Go.by (fun t9_ q9_ => XS.icmpYes W201.here W201.hx rfl (pc0 := 8) (pc' := 32) rfl (hb hby dc7_8) rfl (flt g_).2.1 (by decide) (by decide) q9_) ?_
      refine Go.by (fun t9_ q9_ => XS.iloadN W201.here W201.hx rfl (hb hby dc7_32) rfl q9_) ?_
      show Go _ _ _ _ _ _ _ _ _ (T200.setTop (mkF m 33 #[.val (.ref r), .val (.int lo), .val (.int hi), .val (.int acc), .val (.int (1 : Int32))] [(.int acc)]))
      exact W201.retI (by decide) (by decide) hret (hb hby dc7_33) ⟨by rw [hq, numr_c, if_neg g_], rfl⟩
  have J0 : ∀ (T204 : State) (acc : Int32), Wk p l e (⟨5, 0, 0, 60⟩ : Room) s m #[(.ref r), (.int lo), (.int hi)] below meth c Z a0 [] "com/example/kontraktbuch/kontraktbuch/Notation" [] T204 h0 0 0 → num10 [u0, u1, u2, u3, u4, u5, u6, u7, u8, u9] lo hi = numr [u0, u1, u2, u3, u4, u5, u6, u7, u8, u9] (0 : Int32) hi acc → Go p e below s Z [] (⟨5, 0, 0, 60⟩ : Room).cells (⟨5, 0, 0, 60⟩ : Room).slots (fun v h' => v = some (.int (num10 [u0, u1, u2, u3, u4, u5, u6, u7, u8, u9] lo hi)) ∧ h' = h0) (T204.setTop (mkF m 5 #[.val (.ref r), .val (.int lo), .val (.int hi), .val (.int acc), .val (.int (0 : Int32))] [])) := by
    intro T204 acc W205 hq
    refine Go.by (fun t9_ q9_ => XS.iload W205.here W205.hx rfl (hb hby dc7_5) rfl (XS.iloadN W205.here W205.hx rfl (hb hby dc7_7) rfl q9_)) ?_
    by_cases g_ : (0 : Int32) < hi
    · refine Go.by (fun t9_ q9_ => XS.icmpNo W205.here W205.hx rfl (hb hby dc7_8) rfl (tlt g_).2.1 q9_) ?_
      refine Go.by (fun t9_ q9_ => XS.iloadN W205.here W205.hx rfl (hb hby dc7_11) rfl (XS.bipush W205.here W205.hx rfl (hb hby dc7_12) (XS.imul W205.here W205.hx rfl (hb hby dc7_14) rfl (XS.aloadN W205.here W205.hx rfl (hb hby dc7_15) rfl rfl (XS.iload W205.here W205.hx rfl (hb hby dc7_16) rfl q9_))))) ?_
      show Go _ _ _ _ _ _ _ _ _ (T204.setTop (mkF m 18 #[.val (.ref r), .val (.int lo), .val (.int hi), .val (.int acc), .val (.int (0 : Int32))] [(.int (0 : Int32)), (.ref r), (.int (acc * (10 : Int32)))]))
      refine W205.strCh (k_ch hw) (wd21 hw) (wd69 hw) (wd70 hw) (wd72 hw) (wd71 hw) SR hlat (by simp) (SG1.ext W205.old) hG (SFM.ext W205.old) rfm (i := 0) (by simp) rfl (by decide) (Wt := 1) (by decide) (by rw [hml]; rfl) (Nat.le_of_eq rfl) (by decide) (by decide) (hb hby dc7_18) ?_
      intro T206 W207
      refine Go.by (fun t9_ q9_ => XS.iadd W207.here W207.hx rfl (hb hby dc7_21) rfl (XS.bipush W207.here W207.hx rfl (hb hby dc7_22) (XS.isub W207.here W207.hx rfl (hb hby dc7_24) rfl (XS.istoreN W207.here W207.hx rfl (hb hby dc7_25) rfl (l' := #[.val (.ref r), .val (.int lo), .val (.int hi), .val (.int (((acc * (10 : Int32)) + u0) - (48 : Int32))), .val (.int (0 : Int32))]) rfl q9_)))) ?_
      refine Go.by (fun t9_ q9_ => XS.iinc W207.here W207.hx rfl (hb hby dc7_26) rfl (l' := #[.val (.ref r), .val (.int lo), .val (.int hi), .val (.int (((acc * (10 : Int32)) + u0) - (48 : Int32))), .val (.int ((0 : Int32) + (1 : Int32)))]) rfl q9_) ?_
      show Go _ _ _ _ _ _ _ _ _ (T206.setTop (mkF m 29 #[.val (.ref r), .val (.int lo), .val (.int hi), .val (.int (((acc * (10 : Int32)) + u0) - (48 : Int32))), .val (.int (1 : Int32))] []))
      refine Go.by (fun t9_ q9_ => XS.goto W207.here W207.hx rfl (pc0 := 29) (pc' := 5) rfl (hb hby dc7_29) (by decide) (by decide) q9_) ?_
      show Go _ _ _ _ _ _ _ _ _ (T206.setTop (mkF m 5 #[.val (.ref r), .val (.int lo), .val (.int hi), .val (.int (((acc * (10 : Int32)) + u0) - (48 : Int32))), .val (.int (1 : Int32))] []))
      exact J1 _ _ W207 (by rw [hq, numr_c, if_pos g_]; first | done | rfl)
    · refine Go.by (fun t9_ q9_ => XS.icmpYes W205.here W205.hx rfl (pc0 := 8) (pc' := 32) rfl (hb hby dc7_8) rfl (flt g_).2.1 (by decide) (by decide) q9_) ?_
      refine Go.by (fun t9_ q9_ => XS.iloadN W205.here W205.hx rfl (hb hby dc7_32) rfl q9_) ?_
      show Go _ _ _ _ _ _ _ _ _ (T204.setTop (mkF m 33 #[.val (.ref r), .val (.int lo), .val (.int hi), .val (.int acc), .val (.int (0 : Int32))] [(.int acc)]))
      exact W205.retI (by decide) (by decide) hret (hb hby dc7_33) ⟨by rw [hq, numr_c, if_neg g_], rfl⟩
  refine Go.by (fun t9_ q9_ => XS.iconst W0.here W0.hx rfl (hb hby dc7_0) (XS.istoreN W0.here W0.hx rfl (hb hby dc7_1) rfl (l' := #[.val (.ref r), .val (.int lo), .val (.int hi), .val (.int (0 : Int32)), .unset]) rfl (XS.iloadN W0.here W0.hx rfl (hb hby dc7_2) rfl (XS.istore W0.here W0.hx rfl (hb hby dc7_3) rfl (l' := #[.val (.ref r), .val (.int lo), .val (.int hi), .val (.int (0 : Int32)), .val (.int lo)]) rfl q9_)))) ?_
  rcases hlo with rfl | rfl | rfl | rfl | rfl | rfl | rfl | rfl | rfl | rfl | rfl
  · show Go _ _ _ _ _ _ _ _ _ (T0.setTop (mkF m 5 #[.val (.ref r), .val (.int (0 : Int32)), .val (.int hi), .val (.int (0 : Int32)), .val (.int (0 : Int32))] []))
    exact J0 _ _ W0 rfl
  · show Go _ _ _ _ _ _ _ _ _ (T0.setTop (mkF m 5 #[.val (.ref r), .val (.int (1 : Int32)), .val (.int hi), .val (.int (0 : Int32)), .val (.int (1 : Int32))] []))
    exact J1 _ _ W0 rfl
  · show Go _ _ _ _ _ _ _ _ _ (T0.setTop (mkF m 5 #[.val (.ref r), .val (.int (2 : Int32)), .val (.int hi), .val (.int (0 : Int32)), .val (.int (2 : Int32))] []))
    exact J2 _ _ W0 rfl
  · show Go _ _ _ _ _ _ _ _ _ (T0.setTop (mkF m 5 #[.val (.ref r), .val (.int (3 : Int32)), .val (.int hi), .val (.int (0 : Int32)), .val (.int (3 : Int32))] []))
    exact J3 _ _ W0 rfl
  · show Go _ _ _ _ _ _ _ _ _ (T0.setTop (mkF m 5 #[.val (.ref r), .val (.int (4 : Int32)), .val (.int hi), .val (.int (0 : Int32)), .val (.int (4 : Int32))] []))
    exact J4 _ _ W0 rfl
  · show Go _ _ _ _ _ _ _ _ _ (T0.setTop (mkF m 5 #[.val (.ref r), .val (.int (5 : Int32)), .val (.int hi), .val (.int (0 : Int32)), .val (.int (5 : Int32))] []))
    exact J5 _ _ W0 rfl
  · show Go _ _ _ _ _ _ _ _ _ (T0.setTop (mkF m 5 #[.val (.ref r), .val (.int (6 : Int32)), .val (.int hi), .val (.int (0 : Int32)), .val (.int (6 : Int32))] []))
    exact J6 _ _ W0 rfl
  · show Go _ _ _ _ _ _ _ _ _ (T0.setTop (mkF m 5 #[.val (.ref r), .val (.int (7 : Int32)), .val (.int hi), .val (.int (0 : Int32)), .val (.int (7 : Int32))] []))
    exact J7 _ _ W0 rfl
  · show Go _ _ _ _ _ _ _ _ _ (T0.setTop (mkF m 5 #[.val (.ref r), .val (.int (8 : Int32)), .val (.int hi), .val (.int (0 : Int32)), .val (.int (8 : Int32))] []))
    exact J8 _ _ W0 rfl
  · show Go _ _ _ _ _ _ _ _ _ (T0.setTop (mkF m 5 #[.val (.ref r), .val (.int (9 : Int32)), .val (.int hi), .val (.int (0 : Int32)), .val (.int (9 : Int32))] []))
    exact J9 _ _ W0 rfl
  · show Go _ _ _ _ _ _ _ _ _ (T0.setTop (mkF m 5 #[.val (.ref r), .val (.int (10 : Int32)), .val (.int hi), .val (.int (0 : Int32)), .val (.int (10 : Int32))] []))
    exact J10 _ _ W0 rfl
theorem mod11 (x : Int32) : (x &&& (15 : Int32)) % (11 : Int32) = (0 : Int32) ∨ (x &&& (15 : Int32)) % (11 : Int32) = (1 : Int32) ∨ (x &&& (15 : Int32)) % (11 : Int32) = (2 : Int32) ∨ (x &&& (15 : Int32)) % (11 : Int32) = (3 : Int32) ∨ (x &&& (15 : Int32)) % (11 : Int32) = (4 : Int32) ∨ (x &&& (15 : Int32)) % (11 : Int32) = (5 : Int32) ∨ (x &&& (15 : Int32)) % (11 : Int32) = (6 : Int32) ∨ (x &&& (15 : Int32)) % (11 : Int32) = (7 : Int32) ∨ (x &&& (15 : Int32)) % (11 : Int32) = (8 : Int32) ∨ (x &&& (15 : Int32)) % (11 : Int32) = (9 : Int32) ∨ (x &&& (15 : Int32)) % (11 : Int32) = (10 : Int32) := by
  have h := c_and x 15 (by decide)
  have e15 : (15 : Int32).toInt = 15 := rfl
  rcases (by omega : (x &&& (15 : Int32)).toInt = 0 ∨ (x &&& (15 : Int32)).toInt = 1 ∨ (x &&& (15 : Int32)).toInt = 2 ∨ (x &&& (15 : Int32)).toInt = 3 ∨ (x &&& (15 : Int32)).toInt = 4 ∨ (x &&& (15 : Int32)).toInt = 5 ∨ (x &&& (15 : Int32)).toInt = 6 ∨ (x &&& (15 : Int32)).toInt = 7 ∨ (x &&& (15 : Int32)).toInt = 8 ∨ (x &&& (15 : Int32)).toInt = 9 ∨ (x &&& (15 : Int32)).toInt = 10 ∨ (x &&& (15 : Int32)).toInt = 11 ∨ (x &&& (15 : Int32)).toInt = 12 ∨ (x &&& (15 : Int32)).toInt = 13 ∨ (x &&& (15 : Int32)).toInt = 14 ∨ (x &&& (15 : Int32)).toInt = 15) with q_ | q_ | q_ | q_ | q_ | q_ | q_ | q_ | q_ | q_ | q_ | q_ | q_ | q_ | q_ | q_
  · rw [show x &&& (15 : Int32) = 0 from Int32.toInt_inj.mp q_]; decide
  · rw [show x &&& (15 : Int32) = 1 from Int32.toInt_inj.mp q_]; decide
  · rw [show x &&& (15 : Int32) = 2 from Int32.toInt_inj.mp q_]; decide
  · rw [show x &&& (15 : Int32) = 3 from Int32.toInt_inj.mp q_]; decide
  · rw [show x &&& (15 : Int32) = 4 from Int32.toInt_inj.mp q_]; decide
  · rw [show x &&& (15 : Int32) = 5 from Int32.toInt_inj.mp q_]; decide
  · rw [show x &&& (15 : Int32) = 6 from Int32.toInt_inj.mp q_]; decide
  · rw [show x &&& (15 : Int32) = 7 from Int32.toInt_inj.mp q_]; decide
  · rw [show x &&& (15 : Int32) = 8 from Int32.toInt_inj.mp q_]; decide
  · rw [show x &&& (15 : Int32) = 9 from Int32.toInt_inj.mp q_]; decide
  · rw [show x &&& (15 : Int32) = 10 from Int32.toInt_inj.mp q_]; decide
  · rw [show x &&& (15 : Int32) = 11 from Int32.toInt_inj.mp q_]; decide
  · rw [show x &&& (15 : Int32) = 12 from Int32.toInt_inj.mp q_]; decide
  · rw [show x &&& (15 : Int32) = 13 from Int32.toInt_inj.mp q_]; decide
  · rw [show x &&& (15 : Int32) = 14 from Int32.toInt_inj.mp q_]; decide
  · rw [show x &&& (15 : Int32) = 15 from Int32.toInt_inj.mp q_]; decide
theorem rng_of {x : Int32} (h : x = (0 : Int32) ∨ x = (1 : Int32) ∨ x = (2 : Int32) ∨ x = (3 : Int32) ∨ x = (4 : Int32) ∨ x = (5 : Int32) ∨ x = (6 : Int32) ∨ x = (7 : Int32) ∨ x = (8 : Int32) ∨ x = (9 : Int32) ∨ x = (10 : Int32)) : 0 ≤ x.toInt ∧ x.toInt ≤ 10 := by rcases h with rfl | rfl | rfl | rfl | rfl | rfl | rfl | rfl | rfl | rfl | rfl <;> decide
theorem of_rng {x : Int32} (h0 : 0 ≤ x.toInt) (h1 : x.toInt ≤ 10) : x = (0 : Int32) ∨ x = (1 : Int32) ∨ x = (2 : Int32) ∨ x = (3 : Int32) ∨ x = (4 : Int32) ∨ x = (5 : Int32) ∨ x = (6 : Int32) ∨ x = (7 : Int32) ∨ x = (8 : Int32) ∨ x = (9 : Int32) ∨ x = (10 : Int32) := by
  rcases (by omega : x.toInt = 0 ∨ x.toInt = 1 ∨ x.toInt = 2 ∨ x.toInt = 3 ∨ x.toInt = 4 ∨ x.toInt = 5 ∨ x.toInt = 6 ∨ x.toInt = 7 ∨ x.toInt = 8 ∨ x.toInt = 9 ∨ x.toInt = 10) with q_ | q_ | q_ | q_ | q_ | q_ | q_ | q_ | q_ | q_ | q_
  · exact Or.inl (Int32.toInt_inj.mp q_)
  · exact Or.inr (Or.inl (Int32.toInt_inj.mp q_))
  · exact Or.inr (Or.inr (Or.inl (Int32.toInt_inj.mp q_)))
  · exact Or.inr (Or.inr (Or.inr (Or.inl (Int32.toInt_inj.mp q_))))
  · exact Or.inr (Or.inr (Or.inr (Or.inr (Or.inl (Int32.toInt_inj.mp q_)))))
  · exact Or.inr (Or.inr (Or.inr (Or.inr (Or.inr (Or.inl (Int32.toInt_inj.mp q_))))))
  · exact Or.inr (Or.inr (Or.inr (Or.inr (Or.inr (Or.inr (Or.inl (Int32.toInt_inj.mp q_)))))))
  · exact Or.inr (Or.inr (Or.inr (Or.inr (Or.inr (Or.inr (Or.inr (Or.inl (Int32.toInt_inj.mp q_))))))))
  · exact Or.inr (Or.inr (Or.inr (Or.inr (Or.inr (Or.inr (Or.inr (Or.inr (Or.inl (Int32.toInt_inj.mp q_)))))))))
  · exact Or.inr (Or.inr (Or.inr (Or.inr (Or.inr (Or.inr (Or.inr (Or.inr (Or.inr (Or.inl (Int32.toInt_inj.mp q_))))))))))
  · exact Or.inr (Or.inr (Or.inr (Or.inr (Or.inr (Or.inr (Or.inr (Or.inr (Or.inr (Or.inr (Int32.toInt_inj.mp q_))))))))))
theorem idx_of {hi : Int32} (i : Int32) (hi0 : 0 ≤ i.toInt) (h1 : hi.toInt ≤ 10) (h2 : i < hi) : hi - 1 - i = (0 : Int32) ∨ hi - 1 - i = (1 : Int32) ∨ hi - 1 - i = (2 : Int32) ∨ hi - 1 - i = (3 : Int32) ∨ hi - 1 - i = (4 : Int32) ∨ hi - 1 - i = (5 : Int32) ∨ hi - 1 - i = (6 : Int32) ∨ hi - 1 - i = (7 : Int32) ∨ hi - 1 - i = (8 : Int32) ∨ hi - 1 - i = (9 : Int32) := by
  rw [Int32.lt_iff_toInt_lt] at h2
  have e1 : (hi - 1 - i).toInt = hi.toInt - 1 - i.toInt := by
    rw [Int32.toInt_sub, Int32.toInt_sub]
    have e : (1 : Int32).toInt = 1 := rfl
    rw [e, Int.bmod_eq_of_le (by omega) (by omega) (n := hi.toInt - 1), Int.bmod_eq_of_le (by omega) (by omega)]
  rcases (by omega : (hi - 1 - i).toInt = 0 ∨ (hi - 1 - i).toInt = 1 ∨ (hi - 1 - i).toInt = 2 ∨ (hi - 1 - i).toInt = 3 ∨ (hi - 1 - i).toInt = 4 ∨ (hi - 1 - i).toInt = 5 ∨ (hi - 1 - i).toInt = 6 ∨ (hi - 1 - i).toInt = 7 ∨ (hi - 1 - i).toInt = 8 ∨ (hi - 1 - i).toInt = 9) with q_ | q_ | q_ | q_ | q_ | q_ | q_ | q_ | q_ | q_
  · exact Or.inl (Int32.toInt_inj.mp q_)
  · exact Or.inr (Or.inl (Int32.toInt_inj.mp q_))
  · exact Or.inr (Or.inr (Or.inl (Int32.toInt_inj.mp q_)))
  · exact Or.inr (Or.inr (Or.inr (Or.inl (Int32.toInt_inj.mp q_))))
  · exact Or.inr (Or.inr (Or.inr (Or.inr (Or.inl (Int32.toInt_inj.mp q_)))))
  · exact Or.inr (Or.inr (Or.inr (Or.inr (Or.inr (Or.inl (Int32.toInt_inj.mp q_))))))
  · exact Or.inr (Or.inr (Or.inr (Or.inr (Or.inr (Or.inr (Or.inl (Int32.toInt_inj.mp q_)))))))
  · exact Or.inr (Or.inr (Or.inr (Or.inr (Or.inr (Or.inr (Or.inr (Or.inl (Int32.toInt_inj.mp q_))))))))
  · exact Or.inr (Or.inr (Or.inr (Or.inr (Or.inr (Or.inr (Or.inr (Or.inr (Or.inl (Int32.toInt_inj.mp q_)))))))))
  · exact Or.inr (Or.inr (Or.inr (Or.inr (Or.inr (Or.inr (Or.inr (Or.inr (Or.inr (Int32.toInt_inj.mp q_)))))))))

theorem c_law (l : Launch) (Z : State) (a0 : Array Value) (hw : HW Z a0) (hEL : EW Z a0 []) (h0 : Heap) (hE0 : Ext Z.heap h0) (p0 p1 : Int64) (p2 p3 G1 : Int32) (fm : Value) (SG1 : Sta Z Z.heap "java/lang/String" "COMPACT_STRINGS" "Z" (.int G1)) (hG : ¬ G1 = 0) (SFM : Sta Z Z.heap "jdk/internal/util/Preconditions" "SIOOBE_FORMATTER" "Ljava/util/function/BiFunction;" fm) (rfm : fm.isRef = true) (PLW : ∀ (lo hi u0 u1 u2 u3 u4 u5 u6 u7 u8 u9 : Int32), 0 ≤ lo.toInt → lo.toInt ≤ hi.toInt → hi.toInt ≤ 10 → (¬ (0 : Int32) < lo → (0 : Int32) < hi → u0 = (48 : Int32) + dgt p0 (0 : Int32)) → (¬ (1 : Int32) < lo → (1 : Int32) < hi → u1 = (48 : Int32) + dgt p0 (1 : Int32)) → (¬ (2 : Int32) < lo → (2 : Int32) < hi → u2 = (48 : Int32) + dgt p0 (2 : Int32)) → (¬ (3 : Int32) < lo → (3 : Int32) < hi → u3 = (48 : Int32) + dgt p0 (3 : Int32)) → (¬ (4 : Int32) < lo → (4 : Int32) < hi → u4 = (48 : Int32) + dgt p0 (4 : Int32)) → (¬ (5 : Int32) < lo → (5 : Int32) < hi → u5 = (48 : Int32) + dgt p0 (5 : Int32)) → (¬ (6 : Int32) < lo → (6 : Int32) < hi → u6 = (48 : Int32) + dgt p0 (6 : Int32)) → (¬ (7 : Int32) < lo → (7 : Int32) < hi → u7 = (48 : Int32) + dgt p0 (7 : Int32)) → (¬ (8 : Int32) < lo → (8 : Int32) < hi → u8 = (48 : Int32) + dgt p0 (8 : Int32)) → (¬ (9 : Int32) < lo → (9 : Int32) < hi → u9 = (48 : Int32) + dgt p0 (9 : Int32)) →  ¬ ((((((((((tm p0 (0 : Int32) lo hi) + (tm p0 (1 : Int32) lo hi)) + (tm p0 (2 : Int32) lo hi)) + (tm p0 (3 : Int32) lo hi)) + (tm p0 (4 : Int32) lo hi)) + (tm p0 (5 : Int32) lo hi)) + (tm p0 (6 : Int32) lo hi)) + (tm p0 (7 : Int32) lo hi)) + (tm p0 (8 : Int32) lo hi)) + (tm p0 (9 : Int32) lo hi)) > (2147483647 : Int64) → num10 [u0, u1, u2, u3, u4, u5, u6, u7, u8, u9] lo hi = (((((((((((tm p0 (0 : Int32) lo hi) + (tm p0 (1 : Int32) lo hi)) + (tm p0 (2 : Int32) lo hi)) + (tm p0 (3 : Int32) lo hi)) + (tm p0 (4 : Int32) lo hi)) + (tm p0 (5 : Int32) lo hi)) + (tm p0 (6 : Int32) lo hi)) + (tm p0 (7 : Int32) lo hi)) + (tm p0 (8 : Int32) lo hi)) + (tm p0 (9 : Int32) lo hi))).toInt32) :
    Con l Z [] [] x code maxLocals ret tables_1 room_1 #[(.long p0), (.long p1), (.int p2), (.int p3)] h0 (fun v h' => v = some (.int 1)) := by
  refine Con.mk (plainFor_of_name pn_0) hEL hE0 (fun x hx => by cases hx) ?_
  intro p e s m below meth c T0 hby hml hret hnm W0
  rw [(show entryFrame m #[(.long p0), (.long p1), (.int p2), (.int p3)] maxLocals = mkF m 0 #[.val (.long p0), .second, .val (.long p1), .second, .val (.int p2), .val (.int p3), .unset, .unset, .unset, .unset, .unset, .unset, .unset, .unset] [] from by first | (simp [entryFrame, mkF, argsToLocals, Value.category, maxLocals]; done) | rfl)]
  refine Go.by (fun t9_ q9_ => XS.iload W0.here W0.hx rfl (hb hby at_0) rfl (XS.bipush W0.here W0.hx rfl (hb hby at_2) (XS.iand W0.here W0.hx rfl (hb hby at_4) rfl (XS.bipush W0.here W0.hx rfl (hb hby at_5) (iremW W0.here W0.hx rfl (hb hby at_7) rfl (by decide) (XS.istore W0.here W0.hx rfl (hb hby at_8) rfl (l' := #[.val (.long p0), .second, .val (.long p1), .second, .val (.int p2), .val (.int p3), .val (.int ((p3 &&& (15 : Int32)) % (11 : Int32))), .unset, .unset, .unset, .unset, .unset, .unset, .unset]) rfl q9_)))))) ?_
  show Go _ _ _ _ _ _ _ _ _ (T0.setTop (mkF m 10 #[.val (.long p0), .second, .val (.long p1), .second, .val (.int p2), .val (.int p3), .val (.int ((p3 &&& (15 : Int32)) % (11 : Int32))), .unset, .unset, .unset, .unset, .unset, .unset, .unset] []))
  obtain ⟨aa, h_aa⟩ : ∃ z : Int32, z = ((p3 &&& (15 : Int32)) % (11 : Int32)) := ⟨_, rfl⟩
  rw [← h_aa]
  refine Go.by (fun t9_ q9_ => XS.iload W0.here W0.hx rfl (hb hby at_10) rfl (XS.iconst W0.here W0.hx rfl (hb hby at_12) (XS.iushr W0.here W0.hx rfl (hb hby at_13) rfl (XS.bipush W0.here W0.hx rfl (hb hby at_14) (XS.iand W0.here W0.hx rfl (hb hby at_16) rfl (XS.bipush W0.here W0.hx rfl (hb hby at_17) (iremW W0.here W0.hx rfl (hb hby at_19) rfl (by decide) (XS.istore W0.here W0.hx rfl (hb hby at_20) rfl (l' := #[.val (.long p0), .second, .val (.long p1), .second, .val (.int p2), .val (.int p3), .val (.int aa), .val (.int ((((p3.toUInt32 >>> ((4 : Int32) &&& 31).toUInt32).toInt32) &&& (15 : Int32)) % (11 : Int32))), .unset, .unset, .unset, .unset, .unset, .unset]) rfl q9_)))))))) ?_
  show Go _ _ _ _ _ _ _ _ _ (T0.setTop (mkF m 22 #[.val (.long p0), .second, .val (.long p1), .second, .val (.int p2), .val (.int p3), .val (.int aa), .val (.int ((((p3.toUInt32 >>> ((4 : Int32) &&& 31).toUInt32).toInt32) &&& (15 : Int32)) % (11 : Int32))), .unset, .unset, .unset, .unset, .unset, .unset] []))
  obtain ⟨bb, h_bb⟩ : ∃ z : Int32, z = ((((p3.toUInt32 >>> ((4 : Int32) &&& 31).toUInt32).toInt32) &&& (15 : Int32)) % (11 : Int32)) := ⟨_, rfl⟩
  rw [← h_bb]
  have ha := rng_of (show aa = (0 : Int32) ∨ aa = (1 : Int32) ∨ aa = (2 : Int32) ∨ aa = (3 : Int32) ∨ aa = (4 : Int32) ∨ aa = (5 : Int32) ∨ aa = (6 : Int32) ∨ aa = (7 : Int32) ∨ aa = (8 : Int32) ∨ aa = (9 : Int32) ∨ aa = (10 : Int32) by rw [h_aa]; exact mod11 _)
  have hb_ := rng_of (show bb = (0 : Int32) ∨ bb = (1 : Int32) ∨ bb = (2 : Int32) ∨ bb = (3 : Int32) ∨ bb = (4 : Int32) ∨ bb = (5 : Int32) ∨ bb = (6 : Int32) ∨ bb = (7 : Int32) ∨ bb = (8 : Int32) ∨ bb = (9 : Int32) ∨ bb = (10 : Int32) by rw [h_bb]; exact mod11 _)
  clear h_aa h_bb
  refine Go.by (fun t9_ q9_ => XS.iload W0.here W0.hx rfl (hb hby at_22) rfl (XS.iload W0.here W0.hx rfl (hb hby at_24) rfl q9_)) ?_
  show Go _ _ _ _ _ _ _ _ _ (T0.setTop (mkF m 26 #[.val (.long p0), .second, .val (.long p1), .second, .val (.int p2), .val (.int p3), .val (.int aa), .val (.int bb), .unset, .unset, .unset, .unset, .unset, .unset] [(.int bb), (.int aa)]))
  refine W0.callSp (y := (⟨"java/lang/Math", "min", "(II)I"⟩ : MethodName)) (wd0 hw) (wd1 hw) (wd2 hw) (wd3 hw) (by decide) (c_min l Z a0 hw hEL h0 W0.old aa bb) all0 (by decide) (by decide) (k' := 0) (n' := 0) rfl rfl (by decide) (by decide) (by rw [hml]; rfl) (argsL := [(.int aa), (.int bb)]) (rest := []) (lenOf pd_3 rfl) rfl rfl (Wt := 0) (Nat.le_of_eq rfl) (hb hby at_26) ?_
  intro T208 W209
  refine Go.by (fun t9_ q9_ => XS.istore W209.here W209.hx rfl (hb hby at_29) rfl (l' := #[.val (.long p0), .second, .val (.long p1), .second, .val (.int p2), .val (.int p3), .val (.int aa), .val (.int bb), .val (.int (if bb < aa then bb else aa)), .unset, .unset, .unset, .unset, .unset]) rfl q9_) ?_
  show Go _ _ _ _ _ _ _ _ _ (T208.setTop (mkF m 31 #[.val (.long p0), .second, .val (.long p1), .second, .val (.int p2), .val (.int p3), .val (.int aa), .val (.int bb), .val (.int (if bb < aa then bb else aa)), .unset, .unset, .unset, .unset, .unset] []))
  obtain ⟨lo, h_lo⟩ : ∃ z : Int32, z = (if bb < aa then bb else aa) := ⟨_, rfl⟩
  rw [← h_lo]
  refine Go.by (fun t9_ q9_ => XS.iload W209.here W209.hx rfl (hb hby at_31) rfl (XS.iload W209.here W209.hx rfl (hb hby at_33) rfl q9_)) ?_
  show Go _ _ _ _ _ _ _ _ _ (T208.setTop (mkF m 35 #[.val (.long p0), .second, .val (.long p1), .second, .val (.int p2), .val (.int p3), .val (.int aa), .val (.int bb), .val (.int lo), .unset, .unset, .unset, .unset, .unset] [(.int bb), (.int aa)]))
  refine W209.callSp (y := (⟨"java/lang/Math", "max", "(II)I"⟩ : MethodName)) (wd4 hw) (wd5 hw) (wd2 hw) (wd6 hw) (by decide) (c_max l Z a0 hw hEL h0 W209.old aa bb) all0 (by decide) (by decide) (k' := 0) (n' := 0) rfl rfl (by decide) (by decide) (by rw [hml]; rfl) (argsL := [(.int aa), (.int bb)]) (rest := []) (lenOf pd_3 rfl) rfl rfl (Wt := 0) (Nat.le_of_eq rfl) (hb hby at_35) ?_
  intro T210 W211
  refine Go.by (fun t9_ q9_ => XS.istore W211.here W211.hx rfl (hb hby at_38) rfl (l' := #[.val (.long p0), .second, .val (.long p1), .second, .val (.int p2), .val (.int p3), .val (.int aa), .val (.int bb), .val (.int lo), .val (.int (if aa < bb then bb else aa)), .unset, .unset, .unset, .unset]) rfl q9_) ?_
  show Go _ _ _ _ _ _ _ _ _ (T210.setTop (mkF m 40 #[.val (.long p0), .second, .val (.long p1), .second, .val (.int p2), .val (.int p3), .val (.int aa), .val (.int bb), .val (.int lo), .val (.int (if aa < bb then bb else aa)), .unset, .unset, .unset, .unset] []))
  obtain ⟨hi, h_hi⟩ : ∃ z : Int32, z = (if aa < bb then bb else aa) := ⟨_, rfl⟩
  rw [← h_hi]
  have hlh : 0 ≤ lo.toInt ∧ lo.toInt ≤ hi.toInt ∧ hi.toInt ≤ 10 := by rw [h_lo, h_hi]; simp only [Int32.lt_iff_toInt_lt]; split <;> split <;> omega
  clear h_lo h_hi
  refine Go.by (fun t9_ q9_ => XS.bipush W211.here W211.hx rfl (hb hby at_40) q9_) ?_
  show Go _ _ _ _ _ _ _ _ _ (T210.setTop (mkF m 42 #[.val (.long p0), .second, .val (.long p1), .second, .val (.int p2), .val (.int p3), .val (.int aa), .val (.int bb), .val (.int lo), .val (.int hi), .unset, .unset, .unset, .unset] [(.int (10 : Int32))]))
  refine W211.newp (aty := .char) (wd7 hw) (hb hby at_42) (by decide) (cap := 10) (by decide) (by decide) (k' := 1) (n' := 10) rfl rfl (by decide) (by decide) (ad := "[C") rfl ?_
  intro T212 h213 ca k_ca W214 E215 g_ca z_ca A_ca V_ca
  have V1_ca : Arv Z h213 ca k_ca .char (10 : Int32) [(.int (0 : Int32)), (.int (0 : Int32)), (.int (0 : Int32)), (.int (0 : Int32)), (.int (0 : Int32)), (.int (0 : Int32)), (.int (0 : Int32)), (.int (0 : Int32)), (.int (0 : Int32)), (.int (0 : Int32))] (.int (0 : Int32)) := V_ca.pad (pad_rep [] (.int (0 : Int32)) 10)
  refine Go.by (fun t9_ q9_ => XS.astore W214.here W214.hx rfl (hb hby at_44) rfl rfl (l' := #[.val (.long p0), .second, .val (.long p1), .second, .val (.int p2), .val (.int p3), .val (.int aa), .val (.int bb), .val (.int lo), .val (.int hi), .val (.ref ca), .unset, .unset, .unset]) rfl (XS.aload W214.here W214.hx rfl (hb hby at_46) rfl rfl (XS.iconst W214.here W214.hx rfl (hb hby at_48) (XS.iconst W214.here W214.hx rfl (hb hby at_49) (XS.iload W214.here W214.hx rfl (hb hby at_50) rfl (XS.iload W214.here W214.hx rfl (hb hby at_52) rfl (XS.lloadN W214.here W214.hx rfl (hb hby at_54) rfl (XS.lloadN W214.here W214.hx rfl (hb hby at_55) rfl (XS.l2i W214.here W214.hx rfl (hb hby at_56) rfl q9_))))))))) ?_
  show Go _ _ _ _ _ _ _ _ _ (T212.setTop (mkF m 57 #[.val (.long p0), .second, .val (.long p1), .second, .val (.int p2), .val (.int p3), .val (.int aa), .val (.int bb), .val (.int lo), .val (.int hi), .val (.ref ca), .unset, .unset, .unset] [(.int (p1.toInt32)), (.long p0), (.int hi), (.int lo), (.int (0 : Int32)), (.int (0 : Int32)), (.ref ca)]))
  refine W214.callSr (y := (⟨"com/example/kontraktbuch/kontraktbuch/NotationNumberPinLaw", "ch", "(IIIJI)C"⟩ : MethodName)) (wd8 hw) (wd9 hw) (wd10 hw) (wd11 hw) (by decide) (c_ch l Z a0 hw hEL h213 W214.old (0 : Int32) lo hi p0 (p1.toInt32)) all0 (by decide) (by decide) (k' := 1) (n' := 10) rfl rfl (by decide) (by decide) (by rw [hml]; rfl) (argsL := [(.int (0 : Int32)), (.int lo), (.int hi), (.long p0), (.int (p1.toInt32))]) (rest := [(.int (0 : Int32)), (.ref ca)]) (lenOf pd_4 rfl) rfl rfl (Wt := 2) (Nat.le_of_eq rfl) (hb hby at_57) ?_
  intro v_ T216 W217 hq_
  obtain ⟨u0, rfl, r_u0, e_u0⟩ := hq_
  show Go _ _ _ _ _ _ _ _ _ (T216.setTop (mkF m 60 #[.val (.long p0), .second, .val (.long p1), .second, .val (.int p2), .val (.int p3), .val (.int aa), .val (.int bb), .val (.int lo), .val (.int hi), .val (.ref ca), .unset, .unset, .unset] [(.int u0), (.int (0 : Int32)), (.ref ca)]))
  refine W217.cast_ V1_ca ⟨by decide, by decide⟩ (i := 0) rfl (by simp) (v' := u0) (nar_id (up16 r_u0)) z_ca (List.mem_of_getElem? (i := 0) rfl) (hb hby at_60) ?_
  intro T218 h219 W220 Wr221 V222_ca'
  have V222_ca : Arv Z h219 ca k_ca .char (10 : Int32) [(.int u0), (.int (0 : Int32)), (.int (0 : Int32)), (.int (0 : Int32)), (.int (0 : Int32)), (.int (0 : Int32)), (.int (0 : Int32)), (.int (0 : Int32)), (.int (0 : Int32)), (.int (0 : Int32))] (.int (0 : Int32)) := V222_ca'
  refine Go.by (fun t9_ q9_ => XS.aload W220.here W220.hx rfl (hb hby at_61) rfl rfl (XS.iconst W220.here W220.hx rfl (hb hby at_63) (XS.iconst W220.here W220.hx rfl (hb hby at_64) (XS.iload W220.here W220.hx rfl (hb hby at_65) rfl (XS.iload W220.here W220.hx rfl (hb hby at_67) rfl (XS.lloadN W220.here W220.hx rfl (hb hby at_69) rfl (XS.lloadN W220.here W220.hx rfl (hb hby at_70) rfl (XS.bipush W220.here W220.hx rfl (hb hby at_71) (XS.lushr W220.here W220.hx rfl (hb hby at_73) rfl (XS.l2i W220.here W220.hx rfl (hb hby at_74) rfl q9_)))))))))) ?_
  show Go _ _ _ _ _ _ _ _ _ (T218.setTop (mkF m 75 #[.val (.long p0), .second, .val (.long p1), .second, .val (.int p2), .val (.int p3), .val (.int aa), .val (.int bb), .val (.int lo), .val (.int hi), .val (.ref ca), .unset, .unset, .unset] [(.int (((p1.toUInt64 >>> ((8 : Int32) &&& 0x3f).toInt64.toUInt64).toInt64).toInt32)), (.long p0), (.int hi), (.int lo), (.int (1 : Int32)), (.int (1 : Int32)), (.ref ca)]))
  refine W220.callSr (y := (⟨"com/example/kontraktbuch/kontraktbuch/NotationNumberPinLaw", "ch", "(IIIJI)C"⟩ : MethodName)) (wd8 hw) (wd9 hw) (wd10 hw) (wd11 hw) (by decide) (c_ch l Z a0 hw hEL h219 W220.old (1 : Int32) lo hi p0 (((p1.toUInt64 >>> ((8 : Int32) &&& 0x3f).toInt64.toUInt64).toInt64).toInt32)) all0 (by decide) (by decide) (k' := 1) (n' := 10) rfl rfl (by decide) (by decide) (by rw [hml]; rfl) (argsL := [(.int (1 : Int32)), (.int lo), (.int hi), (.long p0), (.int (((p1.toUInt64 >>> ((8 : Int32) &&& 0x3f).toInt64.toUInt64).toInt64).toInt32))]) (rest := [(.int (1 : Int32)), (.ref ca)]) (lenOf pd_4 rfl) rfl rfl (Wt := 2) (Nat.le_of_eq rfl) (hb hby at_75) ?_
  intro v_ T223 W224 hq_
  obtain ⟨u1, rfl, r_u1, e_u1⟩ := hq_
  show Go _ _ _ _ _ _ _ _ _ (T223.setTop (mkF m 78 #[.val (.long p0), .second, .val (.long p1), .second, .val (.int p2), .val (.int p3), .val (.int aa), .val (.int bb), .val (.int lo), .val (.int hi), .val (.ref ca), .unset, .unset, .unset] [(.int u1), (.int (1 : Int32)), (.ref ca)]))
  refine W224.cast_ V222_ca ⟨by decide, by decide⟩ (i := 1) rfl (by simp) (v' := u1) (nar_id (up16 r_u1)) z_ca (List.mem_of_getElem? (i := 0) rfl) (hb hby at_78) ?_
  intro T225 h226 W227 Wr228 V229_ca'
  have V229_ca : Arv Z h226 ca k_ca .char (10 : Int32) [(.int u0), (.int u1), (.int (0 : Int32)), (.int (0 : Int32)), (.int (0 : Int32)), (.int (0 : Int32)), (.int (0 : Int32)), (.int (0 : Int32)), (.int (0 : Int32)), (.int (0 : Int32))] (.int (0 : Int32)) := V229_ca'
  refine Go.by (fun t9_ q9_ => XS.aload W227.here W227.hx rfl (hb hby at_79) rfl rfl (XS.iconst W227.here W227.hx rfl (hb hby at_81) (XS.iconst W227.here W227.hx rfl (hb hby at_82) (XS.iload W227.here W227.hx rfl (hb hby at_83) rfl (XS.iload W227.here W227.hx rfl (hb hby at_85) rfl (XS.lloadN W227.here W227.hx rfl (hb hby at_87) rfl (XS.lloadN W227.here W227.hx rfl (hb hby at_88) rfl (XS.bipush W227.here W227.hx rfl (hb hby at_89) (XS.lushr W227.here W227.hx rfl (hb hby at_91) rfl (XS.l2i W227.here W227.hx rfl (hb hby at_92) rfl q9_)))))))))) ?_
  show Go _ _ _ _ _ _ _ _ _ (T225.setTop (mkF m 93 #[.val (.long p0), .second, .val (.long p1), .second, .val (.int p2), .val (.int p3), .val (.int aa), .val (.int bb), .val (.int lo), .val (.int hi), .val (.ref ca), .unset, .unset, .unset] [(.int (((p1.toUInt64 >>> ((16 : Int32) &&& 0x3f).toInt64.toUInt64).toInt64).toInt32)), (.long p0), (.int hi), (.int lo), (.int (2 : Int32)), (.int (2 : Int32)), (.ref ca)]))
  refine W227.callSr (y := (⟨"com/example/kontraktbuch/kontraktbuch/NotationNumberPinLaw", "ch", "(IIIJI)C"⟩ : MethodName)) (wd8 hw) (wd9 hw) (wd10 hw) (wd11 hw) (by decide) (c_ch l Z a0 hw hEL h226 W227.old (2 : Int32) lo hi p0 (((p1.toUInt64 >>> ((16 : Int32) &&& 0x3f).toInt64.toUInt64).toInt64).toInt32)) all0 (by decide) (by decide) (k' := 1) (n' := 10) rfl rfl (by decide) (by decide) (by rw [hml]; rfl) (argsL := [(.int (2 : Int32)), (.int lo), (.int hi), (.long p0), (.int (((p1.toUInt64 >>> ((16 : Int32) &&& 0x3f).toInt64.toUInt64).toInt64).toInt32))]) (rest := [(.int (2 : Int32)), (.ref ca)]) (lenOf pd_4 rfl) rfl rfl (Wt := 2) (Nat.le_of_eq rfl) (hb hby at_93) ?_
  intro v_ T230 W231 hq_
  obtain ⟨u2, rfl, r_u2, e_u2⟩ := hq_
  show Go _ _ _ _ _ _ _ _ _ (T230.setTop (mkF m 96 #[.val (.long p0), .second, .val (.long p1), .second, .val (.int p2), .val (.int p3), .val (.int aa), .val (.int bb), .val (.int lo), .val (.int hi), .val (.ref ca), .unset, .unset, .unset] [(.int u2), (.int (2 : Int32)), (.ref ca)]))
  refine W231.cast_ V229_ca ⟨by decide, by decide⟩ (i := 2) rfl (by simp) (v' := u2) (nar_id (up16 r_u2)) z_ca (List.mem_of_getElem? (i := 0) rfl) (hb hby at_96) ?_
  intro T232 h233 W234 Wr235 V236_ca'
  have V236_ca : Arv Z h233 ca k_ca .char (10 : Int32) [(.int u0), (.int u1), (.int u2), (.int (0 : Int32)), (.int (0 : Int32)), (.int (0 : Int32)), (.int (0 : Int32)), (.int (0 : Int32)), (.int (0 : Int32)), (.int (0 : Int32))] (.int (0 : Int32)) := V236_ca'
  refine Go.by (fun t9_ q9_ => XS.aload W234.here W234.hx rfl (hb hby at_97) rfl rfl (XS.iconst W234.here W234.hx rfl (hb hby at_99) (XS.iconst W234.here W234.hx rfl (hb hby at_100) (XS.iload W234.here W234.hx rfl (hb hby at_101) rfl (XS.iload W234.here W234.hx rfl (hb hby at_103) rfl (XS.lloadN W234.here W234.hx rfl (hb hby at_105) rfl (XS.lloadN W234.here W234.hx rfl (hb hby at_106) rfl (XS.bipush W234.here W234.hx rfl (hb hby at_107) (XS.lushr W234.here W234.hx rfl (hb hby at_109) rfl (XS.l2i W234.here W234.hx rfl (hb hby at_110) rfl q9_)))))))))) ?_
  show Go _ _ _ _ _ _ _ _ _ (T232.setTop (mkF m 111 #[.val (.long p0), .second, .val (.long p1), .second, .val (.int p2), .val (.int p3), .val (.int aa), .val (.int bb), .val (.int lo), .val (.int hi), .val (.ref ca), .unset, .unset, .unset] [(.int (((p1.toUInt64 >>> ((24 : Int32) &&& 0x3f).toInt64.toUInt64).toInt64).toInt32)), (.long p0), (.int hi), (.int lo), (.int (3 : Int32)), (.int (3 : Int32)), (.ref ca)]))
  refine W234.callSr (y := (⟨"com/example/kontraktbuch/kontraktbuch/NotationNumberPinLaw", "ch", "(IIIJI)C"⟩ : MethodName)) (wd8 hw) (wd9 hw) (wd10 hw) (wd11 hw) (by decide) (c_ch l Z a0 hw hEL h233 W234.old (3 : Int32) lo hi p0 (((p1.toUInt64 >>> ((24 : Int32) &&& 0x3f).toInt64.toUInt64).toInt64).toInt32)) all0 (by decide) (by decide) (k' := 1) (n' := 10) rfl rfl (by decide) (by decide) (by rw [hml]; rfl) (argsL := [(.int (3 : Int32)), (.int lo), (.int hi), (.long p0), (.int (((p1.toUInt64 >>> ((24 : Int32) &&& 0x3f).toInt64.toUInt64).toInt64).toInt32))]) (rest := [(.int (3 : Int32)), (.ref ca)]) (lenOf pd_4 rfl) rfl rfl (Wt := 2) (Nat.le_of_eq rfl) (hb hby at_111) ?_
  intro v_ T237 W238 hq_
  obtain ⟨u3, rfl, r_u3, e_u3⟩ := hq_
  show Go _ _ _ _ _ _ _ _ _ (T237.setTop (mkF m 114 #[.val (.long p0), .second, .val (.long p1), .second, .val (.int p2), .val (.int p3), .val (.int aa), .val (.int bb), .val (.int lo), .val (.int hi), .val (.ref ca), .unset, .unset, .unset] [(.int u3), (.int (3 : Int32)), (.ref ca)]))
  refine W238.cast_ V236_ca ⟨by decide, by decide⟩ (i := 3) rfl (by simp) (v' := u3) (nar_id (up16 r_u3)) z_ca (List.mem_of_getElem? (i := 0) rfl) (hb hby at_114) ?_
  intro T239 h240 W241 Wr242 V243_ca'
  have V243_ca : Arv Z h240 ca k_ca .char (10 : Int32) [(.int u0), (.int u1), (.int u2), (.int u3), (.int (0 : Int32)), (.int (0 : Int32)), (.int (0 : Int32)), (.int (0 : Int32)), (.int (0 : Int32)), (.int (0 : Int32))] (.int (0 : Int32)) := V243_ca'
  refine Go.by (fun t9_ q9_ => XS.aload W241.here W241.hx rfl (hb hby at_115) rfl rfl (XS.iconst W241.here W241.hx rfl (hb hby at_117) (XS.iconst W241.here W241.hx rfl (hb hby at_118) (XS.iload W241.here W241.hx rfl (hb hby at_119) rfl (XS.iload W241.here W241.hx rfl (hb hby at_121) rfl (XS.lloadN W241.here W241.hx rfl (hb hby at_123) rfl (XS.lloadN W241.here W241.hx rfl (hb hby at_124) rfl (XS.bipush W241.here W241.hx rfl (hb hby at_125) (XS.lushr W241.here W241.hx rfl (hb hby at_127) rfl (XS.l2i W241.here W241.hx rfl (hb hby at_128) rfl q9_)))))))))) ?_
  show Go _ _ _ _ _ _ _ _ _ (T239.setTop (mkF m 129 #[.val (.long p0), .second, .val (.long p1), .second, .val (.int p2), .val (.int p3), .val (.int aa), .val (.int bb), .val (.int lo), .val (.int hi), .val (.ref ca), .unset, .unset, .unset] [(.int (((p1.toUInt64 >>> ((32 : Int32) &&& 0x3f).toInt64.toUInt64).toInt64).toInt32)), (.long p0), (.int hi), (.int lo), (.int (4 : Int32)), (.int (4 : Int32)), (.ref ca)]))
  refine W241.callSr (y := (⟨"com/example/kontraktbuch/kontraktbuch/NotationNumberPinLaw", "ch", "(IIIJI)C"⟩ : MethodName)) (wd8 hw) (wd9 hw) (wd10 hw) (wd11 hw) (by decide) (c_ch l Z a0 hw hEL h240 W241.old (4 : Int32) lo hi p0 (((p1.toUInt64 >>> ((32 : Int32) &&& 0x3f).toInt64.toUInt64).toInt64).toInt32)) all0 (by decide) (by decide) (k' := 1) (n' := 10) rfl rfl (by decide) (by decide) (by rw [hml]; rfl) (argsL := [(.int (4 : Int32)), (.int lo), (.int hi), (.long p0), (.int (((p1.toUInt64 >>> ((32 : Int32) &&& 0x3f).toInt64.toUInt64).toInt64).toInt32))]) (rest := [(.int (4 : Int32)), (.ref ca)]) (lenOf pd_4 rfl) rfl rfl (Wt := 2) (Nat.le_of_eq rfl) (hb hby at_129) ?_
  intro v_ T244 W245 hq_
  obtain ⟨u4, rfl, r_u4, e_u4⟩ := hq_
  show Go _ _ _ _ _ _ _ _ _ (T244.setTop (mkF m 132 #[.val (.long p0), .second, .val (.long p1), .second, .val (.int p2), .val (.int p3), .val (.int aa), .val (.int bb), .val (.int lo), .val (.int hi), .val (.ref ca), .unset, .unset, .unset] [(.int u4), (.int (4 : Int32)), (.ref ca)]))
  refine W245.cast_ V243_ca ⟨by decide, by decide⟩ (i := 4) rfl (by simp) (v' := u4) (nar_id (up16 r_u4)) z_ca (List.mem_of_getElem? (i := 0) rfl) (hb hby at_132) ?_
  intro T246 h247 W248 Wr249 V250_ca'
  have V250_ca : Arv Z h247 ca k_ca .char (10 : Int32) [(.int u0), (.int u1), (.int u2), (.int u3), (.int u4), (.int (0 : Int32)), (.int (0 : Int32)), (.int (0 : Int32)), (.int (0 : Int32)), (.int (0 : Int32))] (.int (0 : Int32)) := V250_ca'
  refine Go.by (fun t9_ q9_ => XS.aload W248.here W248.hx rfl (hb hby at_133) rfl rfl (XS.iconst W248.here W248.hx rfl (hb hby at_135) (XS.iconst W248.here W248.hx rfl (hb hby at_136) (XS.iload W248.here W248.hx rfl (hb hby at_137) rfl (XS.iload W248.here W248.hx rfl (hb hby at_139) rfl (XS.lloadN W248.here W248.hx rfl (hb hby at_141) rfl (XS.lloadN W248.here W248.hx rfl (hb hby at_142) rfl (XS.bipush W248.here W248.hx rfl (hb hby at_143) (XS.lushr W248.here W248.hx rfl (hb hby at_145) rfl (XS.l2i W248.here W248.hx rfl (hb hby at_146) rfl q9_)))))))))) ?_
  show Go _ _ _ _ _ _ _ _ _ (T246.setTop (mkF m 147 #[.val (.long p0), .second, .val (.long p1), .second, .val (.int p2), .val (.int p3), .val (.int aa), .val (.int bb), .val (.int lo), .val (.int hi), .val (.ref ca), .unset, .unset, .unset] [(.int (((p1.toUInt64 >>> ((40 : Int32) &&& 0x3f).toInt64.toUInt64).toInt64).toInt32)), (.long p0), (.int hi), (.int lo), (.int (5 : Int32)), (.int (5 : Int32)), (.ref ca)]))
  refine W248.callSr (y := (⟨"com/example/kontraktbuch/kontraktbuch/NotationNumberPinLaw", "ch", "(IIIJI)C"⟩ : MethodName)) (wd8 hw) (wd9 hw) (wd10 hw) (wd11 hw) (by decide) (c_ch l Z a0 hw hEL h247 W248.old (5 : Int32) lo hi p0 (((p1.toUInt64 >>> ((40 : Int32) &&& 0x3f).toInt64.toUInt64).toInt64).toInt32)) all0 (by decide) (by decide) (k' := 1) (n' := 10) rfl rfl (by decide) (by decide) (by rw [hml]; rfl) (argsL := [(.int (5 : Int32)), (.int lo), (.int hi), (.long p0), (.int (((p1.toUInt64 >>> ((40 : Int32) &&& 0x3f).toInt64.toUInt64).toInt64).toInt32))]) (rest := [(.int (5 : Int32)), (.ref ca)]) (lenOf pd_4 rfl) rfl rfl (Wt := 2) (Nat.le_of_eq rfl) (hb hby at_147) ?_
  intro v_ T251 W252 hq_
  obtain ⟨u5, rfl, r_u5, e_u5⟩ := hq_
  show Go _ _ _ _ _ _ _ _ _ (T251.setTop (mkF m 150 #[.val (.long p0), .second, .val (.long p1), .second, .val (.int p2), .val (.int p3), .val (.int aa), .val (.int bb), .val (.int lo), .val (.int hi), .val (.ref ca), .unset, .unset, .unset] [(.int u5), (.int (5 : Int32)), (.ref ca)]))
  refine W252.cast_ V250_ca ⟨by decide, by decide⟩ (i := 5) rfl (by simp) (v' := u5) (nar_id (up16 r_u5)) z_ca (List.mem_of_getElem? (i := 0) rfl) (hb hby at_150) ?_
  intro T253 h254 W255 Wr256 V257_ca'
  have V257_ca : Arv Z h254 ca k_ca .char (10 : Int32) [(.int u0), (.int u1), (.int u2), (.int u3), (.int u4), (.int u5), (.int (0 : Int32)), (.int (0 : Int32)), (.int (0 : Int32)), (.int (0 : Int32))] (.int (0 : Int32)) := V257_ca'
  refine Go.by (fun t9_ q9_ => XS.aload W255.here W255.hx rfl (hb hby at_151) rfl rfl (XS.bipush W255.here W255.hx rfl (hb hby at_153) (XS.bipush W255.here W255.hx rfl (hb hby at_155) (XS.iload W255.here W255.hx rfl (hb hby at_157) rfl (XS.iload W255.here W255.hx rfl (hb hby at_159) rfl (XS.lloadN W255.here W255.hx rfl (hb hby at_161) rfl (XS.lloadN W255.here W255.hx rfl (hb hby at_162) rfl (XS.bipush W255.here W255.hx rfl (hb hby at_163) (XS.lushr W255.here W255.hx rfl (hb hby at_165) rfl (XS.l2i W255.here W255.hx rfl (hb hby at_166) rfl q9_)))))))))) ?_
  show Go _ _ _ _ _ _ _ _ _ (T253.setTop (mkF m 167 #[.val (.long p0), .second, .val (.long p1), .second, .val (.int p2), .val (.int p3), .val (.int aa), .val (.int bb), .val (.int lo), .val (.int hi), .val (.ref ca), .unset, .unset, .unset] [(.int (((p1.toUInt64 >>> ((48 : Int32) &&& 0x3f).toInt64.toUInt64).toInt64).toInt32)), (.long p0), (.int hi), (.int lo), (.int (6 : Int32)), (.int (6 : Int32)), (.ref ca)]))
  refine W255.callSr (y := (⟨"com/example/kontraktbuch/kontraktbuch/NotationNumberPinLaw", "ch", "(IIIJI)C"⟩ : MethodName)) (wd8 hw) (wd9 hw) (wd10 hw) (wd11 hw) (by decide) (c_ch l Z a0 hw hEL h254 W255.old (6 : Int32) lo hi p0 (((p1.toUInt64 >>> ((48 : Int32) &&& 0x3f).toInt64.toUInt64).toInt64).toInt32)) all0 (by decide) (by decide) (k' := 1) (n' := 10) rfl rfl (by decide) (by decide) (by rw [hml]; rfl) (argsL := [(.int (6 : Int32)), (.int lo), (.int hi), (.long p0), (.int (((p1.toUInt64 >>> ((48 : Int32) &&& 0x3f).toInt64.toUInt64).toInt64).toInt32))]) (rest := [(.int (6 : Int32)), (.ref ca)]) (lenOf pd_4 rfl) rfl rfl (Wt := 2) (Nat.le_of_eq rfl) (hb hby at_167) ?_
  intro v_ T258 W259 hq_
  obtain ⟨u6, rfl, r_u6, e_u6⟩ := hq_
  show Go _ _ _ _ _ _ _ _ _ (T258.setTop (mkF m 170 #[.val (.long p0), .second, .val (.long p1), .second, .val (.int p2), .val (.int p3), .val (.int aa), .val (.int bb), .val (.int lo), .val (.int hi), .val (.ref ca), .unset, .unset, .unset] [(.int u6), (.int (6 : Int32)), (.ref ca)]))
  refine W259.cast_ V257_ca ⟨by decide, by decide⟩ (i := 6) rfl (by simp) (v' := u6) (nar_id (up16 r_u6)) z_ca (List.mem_of_getElem? (i := 0) rfl) (hb hby at_170) ?_
  intro T260 h261 W262 Wr263 V264_ca'
  have V264_ca : Arv Z h261 ca k_ca .char (10 : Int32) [(.int u0), (.int u1), (.int u2), (.int u3), (.int u4), (.int u5), (.int u6), (.int (0 : Int32)), (.int (0 : Int32)), (.int (0 : Int32))] (.int (0 : Int32)) := V264_ca'
  refine Go.by (fun t9_ q9_ => XS.aload W262.here W262.hx rfl (hb hby at_171) rfl rfl (XS.bipush W262.here W262.hx rfl (hb hby at_173) (XS.bipush W262.here W262.hx rfl (hb hby at_175) (XS.iload W262.here W262.hx rfl (hb hby at_177) rfl (XS.iload W262.here W262.hx rfl (hb hby at_179) rfl (XS.lloadN W262.here W262.hx rfl (hb hby at_181) rfl (XS.lloadN W262.here W262.hx rfl (hb hby at_182) rfl (XS.bipush W262.here W262.hx rfl (hb hby at_183) (XS.lushr W262.here W262.hx rfl (hb hby at_185) rfl (XS.l2i W262.here W262.hx rfl (hb hby at_186) rfl q9_)))))))))) ?_
  show Go _ _ _ _ _ _ _ _ _ (T260.setTop (mkF m 187 #[.val (.long p0), .second, .val (.long p1), .second, .val (.int p2), .val (.int p3), .val (.int aa), .val (.int bb), .val (.int lo), .val (.int hi), .val (.ref ca), .unset, .unset, .unset] [(.int (((p1.toUInt64 >>> ((56 : Int32) &&& 0x3f).toInt64.toUInt64).toInt64).toInt32)), (.long p0), (.int hi), (.int lo), (.int (7 : Int32)), (.int (7 : Int32)), (.ref ca)]))
  refine W262.callSr (y := (⟨"com/example/kontraktbuch/kontraktbuch/NotationNumberPinLaw", "ch", "(IIIJI)C"⟩ : MethodName)) (wd8 hw) (wd9 hw) (wd10 hw) (wd11 hw) (by decide) (c_ch l Z a0 hw hEL h261 W262.old (7 : Int32) lo hi p0 (((p1.toUInt64 >>> ((56 : Int32) &&& 0x3f).toInt64.toUInt64).toInt64).toInt32)) all0 (by decide) (by decide) (k' := 1) (n' := 10) rfl rfl (by decide) (by decide) (by rw [hml]; rfl) (argsL := [(.int (7 : Int32)), (.int lo), (.int hi), (.long p0), (.int (((p1.toUInt64 >>> ((56 : Int32) &&& 0x3f).toInt64.toUInt64).toInt64).toInt32))]) (rest := [(.int (7 : Int32)), (.ref ca)]) (lenOf pd_4 rfl) rfl rfl (Wt := 2) (Nat.le_of_eq rfl) (hb hby at_187) ?_
  intro v_ T265 W266 hq_
  obtain ⟨u7, rfl, r_u7, e_u7⟩ := hq_
  show Go _ _ _ _ _ _ _ _ _ (T265.setTop (mkF m 190 #[.val (.long p0), .second, .val (.long p1), .second, .val (.int p2), .val (.int p3), .val (.int aa), .val (.int bb), .val (.int lo), .val (.int hi), .val (.ref ca), .unset, .unset, .unset] [(.int u7), (.int (7 : Int32)), (.ref ca)]))
  refine W266.cast_ V264_ca ⟨by decide, by decide⟩ (i := 7) rfl (by simp) (v' := u7) (nar_id (up16 r_u7)) z_ca (List.mem_of_getElem? (i := 0) rfl) (hb hby at_190) ?_
  intro T267 h268 W269 Wr270 V271_ca'
  have V271_ca : Arv Z h268 ca k_ca .char (10 : Int32) [(.int u0), (.int u1), (.int u2), (.int u3), (.int u4), (.int u5), (.int u6), (.int u7), (.int (0 : Int32)), (.int (0 : Int32))] (.int (0 : Int32)) := V271_ca'
  refine Go.by (fun t9_ q9_ => XS.aload W269.here W269.hx rfl (hb hby at_191) rfl rfl (XS.bipush W269.here W269.hx rfl (hb hby at_193) (XS.bipush W269.here W269.hx rfl (hb hby at_195) (XS.iload W269.here W269.hx rfl (hb hby at_197) rfl (XS.iload W269.here W269.hx rfl (hb hby at_199) rfl (XS.lloadN W269.here W269.hx rfl (hb hby at_201) rfl (XS.iload W269.here W269.hx rfl (hb hby at_202) rfl q9_))))))) ?_
  show Go _ _ _ _ _ _ _ _ _ (T267.setTop (mkF m 204 #[.val (.long p0), .second, .val (.long p1), .second, .val (.int p2), .val (.int p3), .val (.int aa), .val (.int bb), .val (.int lo), .val (.int hi), .val (.ref ca), .unset, .unset, .unset] [(.int p2), (.long p0), (.int hi), (.int lo), (.int (8 : Int32)), (.int (8 : Int32)), (.ref ca)]))
  refine W269.callSr (y := (⟨"com/example/kontraktbuch/kontraktbuch/NotationNumberPinLaw", "ch", "(IIIJI)C"⟩ : MethodName)) (wd8 hw) (wd9 hw) (wd10 hw) (wd11 hw) (by decide) (c_ch l Z a0 hw hEL h268 W269.old (8 : Int32) lo hi p0 p2) all0 (by decide) (by decide) (k' := 1) (n' := 10) rfl rfl (by decide) (by decide) (by rw [hml]; rfl) (argsL := [(.int (8 : Int32)), (.int lo), (.int hi), (.long p0), (.int p2)]) (rest := [(.int (8 : Int32)), (.ref ca)]) (lenOf pd_4 rfl) rfl rfl (Wt := 2) (Nat.le_of_eq rfl) (hb hby at_204) ?_
  intro v_ T272 W273 hq_
  obtain ⟨u8, rfl, r_u8, e_u8⟩ := hq_
  show Go _ _ _ _ _ _ _ _ _ (T272.setTop (mkF m 207 #[.val (.long p0), .second, .val (.long p1), .second, .val (.int p2), .val (.int p3), .val (.int aa), .val (.int bb), .val (.int lo), .val (.int hi), .val (.ref ca), .unset, .unset, .unset] [(.int u8), (.int (8 : Int32)), (.ref ca)]))
  refine W273.cast_ V271_ca ⟨by decide, by decide⟩ (i := 8) rfl (by simp) (v' := u8) (nar_id (up16 r_u8)) z_ca (List.mem_of_getElem? (i := 0) rfl) (hb hby at_207) ?_
  intro T274 h275 W276 Wr277 V278_ca'
  have V278_ca : Arv Z h275 ca k_ca .char (10 : Int32) [(.int u0), (.int u1), (.int u2), (.int u3), (.int u4), (.int u5), (.int u6), (.int u7), (.int u8), (.int (0 : Int32))] (.int (0 : Int32)) := V278_ca'
  refine Go.by (fun t9_ q9_ => XS.aload W276.here W276.hx rfl (hb hby at_208) rfl rfl (XS.bipush W276.here W276.hx rfl (hb hby at_210) (XS.bipush W276.here W276.hx rfl (hb hby at_212) (XS.iload W276.here W276.hx rfl (hb hby at_214) rfl (XS.iload W276.here W276.hx rfl (hb hby at_216) rfl (XS.lloadN W276.here W276.hx rfl (hb hby at_218) rfl (XS.iload W276.here W276.hx rfl (hb hby at_219) rfl (XS.bipush W276.here W276.hx rfl (hb hby at_221) (XS.iushr W276.here W276.hx rfl (hb hby at_223) rfl q9_))))))))) ?_
  show Go _ _ _ _ _ _ _ _ _ (T274.setTop (mkF m 224 #[.val (.long p0), .second, .val (.long p1), .second, .val (.int p2), .val (.int p3), .val (.int aa), .val (.int bb), .val (.int lo), .val (.int hi), .val (.ref ca), .unset, .unset, .unset] [(.int ((p2.toUInt32 >>> ((8 : Int32) &&& 31).toUInt32).toInt32)), (.long p0), (.int hi), (.int lo), (.int (9 : Int32)), (.int (9 : Int32)), (.ref ca)]))
  refine W276.callSr (y := (⟨"com/example/kontraktbuch/kontraktbuch/NotationNumberPinLaw", "ch", "(IIIJI)C"⟩ : MethodName)) (wd8 hw) (wd9 hw) (wd10 hw) (wd11 hw) (by decide) (c_ch l Z a0 hw hEL h275 W276.old (9 : Int32) lo hi p0 ((p2.toUInt32 >>> ((8 : Int32) &&& 31).toUInt32).toInt32)) all0 (by decide) (by decide) (k' := 1) (n' := 10) rfl rfl (by decide) (by decide) (by rw [hml]; rfl) (argsL := [(.int (9 : Int32)), (.int lo), (.int hi), (.long p0), (.int ((p2.toUInt32 >>> ((8 : Int32) &&& 31).toUInt32).toInt32))]) (rest := [(.int (9 : Int32)), (.ref ca)]) (lenOf pd_4 rfl) rfl rfl (Wt := 2) (Nat.le_of_eq rfl) (hb hby at_224) ?_
  intro v_ T279 W280 hq_
  obtain ⟨u9, rfl, r_u9, e_u9⟩ := hq_
  show Go _ _ _ _ _ _ _ _ _ (T279.setTop (mkF m 227 #[.val (.long p0), .second, .val (.long p1), .second, .val (.int p2), .val (.int p3), .val (.int aa), .val (.int bb), .val (.int lo), .val (.int hi), .val (.ref ca), .unset, .unset, .unset] [(.int u9), (.int (9 : Int32)), (.ref ca)]))
  refine W280.cast_ V278_ca ⟨by decide, by decide⟩ (i := 9) rfl (by simp) (v' := u9) (nar_id (up16 r_u9)) z_ca (List.mem_of_getElem? (i := 0) rfl) (hb hby at_227) ?_
  intro T281 h282 W283 Wr284 V285_ca'
  have V285_ca : Arv Z h282 ca k_ca .char (10 : Int32) [(.int u0), (.int u1), (.int u2), (.int u3), (.int u4), (.int u5), (.int u6), (.int u7), (.int u8), (.int u9)] (.int (0 : Int32)) := V285_ca'
  show Go _ _ _ _ _ _ _ _ _ (T281.setTop (mkF m 228 #[.val (.long p0), .second, .val (.long p1), .second, .val (.int p2), .val (.int p3), .val (.int aa), .val (.int bb), .val (.int lo), .val (.int hi), .val (.ref ca), .unset, .unset, .unset] []))
  refine W283.new (wd20 hw) (wd21 hw) (wd22 hw) (hb hby at_228) (k' := 2) (n' := 14) rfl rfl (by decide) (by decide) ?_
  intro T286 h287 r W288 E289 g_r z_r A_r D_r
  have F_coder_r : Fld Z h287 r "java/lang/String" "coder" "B" (.int (0 : Int32)) := D_r (Or.inr (wd46 hw)) (ty := .byte) (by decide)
  have F_value_r : Fld Z h287 r "java/lang/String" "value" "[B" .null := D_r (Or.inr (wd48 hw)) (ty := (.array .byte)) (by decide)
  refine Go.by (fun t9_ q9_ => XS.dup W288.here W288.hx rfl (hb hby at_231) rfl rfl (XS.aload W288.here W288.hx rfl (hb hby at_232) rfl rfl q9_)) ?_
  show Go _ _ _ _ _ _ _ _ _ (T286.setTop (mkF m 234 #[.val (.long p0), .second, .val (.long p1), .second, .val (.int p2), .val (.int p3), .val (.int aa), .val (.int bb), .val (.int lo), .val (.int hi), .val (.ref ca), .unset, .unset, .unset] [(.ref ca), (.ref r), (.ref r)]))
  refine W288.strV (cs := [u0, u1, u2, u3, u4, u5, u6, u7, u8, u9]) (k_words hw) (wd21 hw) (wd23 hw) (wd24 hw) A_r F_value_r F_coder_r (V285_ca.ext E289) (SG1.ext W288.old) hG (q := 10) rfl rfl (by decide) (by decide) (by intro c hc; simp only [List.mem_cons, List.not_mem_nil, or_false] at hc; rcases hc with rfl | rfl | rfl | rfl | rfl | rfl | rfl | rfl | rfl | rfl <;> assumption) z_r (List.mem_of_getElem? (i := 0) rfl) (by decide) (Wt := 1) (by decide) (k' := 3) (n' := 24) rfl rfl (by decide) (by decide) (by rw [hml]; rfl) (Nat.le_of_eq rfl) (hb hby at_234) ?_
  intro T290 h291 W292 K293 S_r
  refine Go.by (fun t9_ q9_ => XS.astore W292.here W292.hx rfl (hb hby at_237) rfl rfl (l' := #[.val (.long p0), .second, .val (.long p1), .second, .val (.int p2), .val (.int p3), .val (.int aa), .val (.int bb), .val (.int lo), .val (.int hi), .val (.ref ca), .val (.ref r), .unset, .unset]) rfl (XS.iconst W292.here W292.hx rfl (hb hby at_239) (XS.iload W292.here W292.hx rfl (hb hby at_240) rfl (XS.iload W292.here W292.hx rfl (hb hby at_242) rfl (XS.lloadN W292.here W292.hx rfl (hb hby at_244) rfl q9_))))) ?_
  show Go _ _ _ _ _ _ _ _ _ (T290.setTop (mkF m 245 #[.val (.long p0), .second, .val (.long p1), .second, .val (.int p2), .val (.int p3), .val (.int aa), .val (.int bb), .val (.int lo), .val (.int hi), .val (.ref ca), .val (.ref r), .unset, .unset] [(.long p0), (.int hi), (.int lo), (.int (0 : Int32))]))
  refine W292.callS (y := (⟨"com/example/kontraktbuch/kontraktbuch/NotationNumberPinLaw", "term", "(IIIJ)J"⟩ : MethodName)) (wd49 hw) (wd50 hw) (wd10 hw) (wd51 hw) (by decide) (c_tm l Z a0 hw hEL h291 W292.old (0 : Int32) lo hi p0 (fun y => idx_of _ (by decide) hlh.2.2 y)) all0 (by decide) (by decide) (k' := 4) (n' := 34) rfl rfl (by decide) (by decide) (by rw [hml]; rfl) (argsL := [(.int (0 : Int32)), (.int lo), (.int hi), (.long p0)]) (rest := []) (lenOf pd_5 rfl) rfl rfl (Wt := 0) (Nat.le_of_eq rfl) (hb hby at_245) ?_
  intro v_ T294 h296 W295 hq_
  obtain ⟨rfl, Y0⟩ := hq_
  refine Go.by (fun t9_ q9_ => XS.iconst W295.here W295.hx rfl (hb hby at_248) (XS.iload W295.here W295.hx rfl (hb hby at_249) rfl (XS.iload W295.here W295.hx rfl (hb hby at_251) rfl (XS.lloadN W295.here W295.hx rfl (hb hby at_253) rfl q9_)))) ?_
  show Go _ _ _ _ _ _ _ _ _ (T294.setTop (mkF m 254 #[.val (.long p0), .second, .val (.long p1), .second, .val (.int p2), .val (.int p3), .val (.int aa), .val (.int bb), .val (.int lo), .val (.int hi), .val (.ref ca), .val (.ref r), .unset, .unset] [(.long p0), (.int hi), (.int lo), (.int (1 : Int32)), (.long (tm p0 (0 : Int32) lo hi))]))
  refine W295.callS (y := (⟨"com/example/kontraktbuch/kontraktbuch/NotationNumberPinLaw", "term", "(IIIJ)J"⟩ : MethodName)) (wd49 hw) (wd50 hw) (wd10 hw) (wd51 hw) (by decide) (c_tm l Z a0 hw hEL h296 W295.old (1 : Int32) lo hi p0 (fun y => idx_of _ (by decide) hlh.2.2 y)) all0 (by decide) (by decide) (k' := 5) (n' := 44) rfl rfl (by decide) (by decide) (by rw [hml]; rfl) (argsL := [(.int (1 : Int32)), (.int lo), (.int hi), (.long p0)]) (rest := [(.long (tm p0 (0 : Int32) lo hi))]) (lenOf pd_5 rfl) rfl rfl (Wt := 2) (Nat.le_of_eq rfl) (hb hby at_254) ?_
  intro v_ T297 h299 W298 hq_
  obtain ⟨rfl, Y1⟩ := hq_
  refine Go.by (fun t9_ q9_ => XS.ladd W298.here W298.hx rfl (hb hby at_257) rfl (XS.iconst W298.here W298.hx rfl (hb hby at_258) (XS.iload W298.here W298.hx rfl (hb hby at_259) rfl (XS.iload W298.here W298.hx rfl (hb hby at_261) rfl (XS.lloadN W298.here W298.hx rfl (hb hby at_263) rfl q9_))))) ?_
  show Go _ _ _ _ _ _ _ _ _ (T297.setTop (mkF m 264 #[.val (.long p0), .second, .val (.long p1), .second, .val (.int p2), .val (.int p3), .val (.int aa), .val (.int bb), .val (.int lo), .val (.int hi), .val (.ref ca), .val (.ref r), .unset, .unset] [(.long p0), (.int hi), (.int lo), (.int (2 : Int32)), (.long ((tm p0 (0 : Int32) lo hi) + (tm p0 (1 : Int32) lo hi)))]))
  refine W298.callS (y := (⟨"com/example/kontraktbuch/kontraktbuch/NotationNumberPinLaw", "term", "(IIIJ)J"⟩ : MethodName)) (wd49 hw) (wd50 hw) (wd10 hw) (wd51 hw) (by decide) (c_tm l Z a0 hw hEL h299 W298.old (2 : Int32) lo hi p0 (fun y => idx_of _ (by decide) hlh.2.2 y)) all0 (by decide) (by decide) (k' := 6) (n' := 54) rfl rfl (by decide) (by decide) (by rw [hml]; rfl) (argsL := [(.int (2 : Int32)), (.int lo), (.int hi), (.long p0)]) (rest := [(.long ((tm p0 (0 : Int32) lo hi) + (tm p0 (1 : Int32) lo hi)))]) (lenOf pd_5 rfl) rfl rfl (Wt := 2) (Nat.le_of_eq rfl) (hb hby at_264) ?_
  intro v_ T300 h302 W301 hq_
  obtain ⟨rfl, Y2⟩ := hq_
  refine Go.by (fun t9_ q9_ => XS.ladd W301.here W301.hx rfl (hb hby at_267) rfl (XS.iconst W301.here W301.hx rfl (hb hby at_268) (XS.iload W301.here W301.hx rfl (hb hby at_269) rfl (XS.iload W301.here W301.hx rfl (hb hby at_271) rfl (XS.lloadN W301.here W301.hx rfl (hb hby at_273) rfl q9_))))) ?_
  show Go _ _ _ _ _ _ _ _ _ (T300.setTop (mkF m 274 #[.val (.long p0), .second, .val (.long p1), .second, .val (.int p2), .val (.int p3), .val (.int aa), .val (.int bb), .val (.int lo), .val (.int hi), .val (.ref ca), .val (.ref r), .unset, .unset] [(.long p0), (.int hi), (.int lo), (.int (3 : Int32)), (.long (((tm p0 (0 : Int32) lo hi) + (tm p0 (1 : Int32) lo hi)) + (tm p0 (2 : Int32) lo hi)))]))
  refine W301.callS (y := (⟨"com/example/kontraktbuch/kontraktbuch/NotationNumberPinLaw", "term", "(IIIJ)J"⟩ : MethodName)) (wd49 hw) (wd50 hw) (wd10 hw) (wd51 hw) (by decide) (c_tm l Z a0 hw hEL h302 W301.old (3 : Int32) lo hi p0 (fun y => idx_of _ (by decide) hlh.2.2 y)) all0 (by decide) (by decide) (k' := 7) (n' := 64) rfl rfl (by decide) (by decide) (by rw [hml]; rfl) (argsL := [(.int (3 : Int32)), (.int lo), (.int hi), (.long p0)]) (rest := [(.long (((tm p0 (0 : Int32) lo hi) + (tm p0 (1 : Int32) lo hi)) + (tm p0 (2 : Int32) lo hi)))]) (lenOf pd_5 rfl) rfl rfl (Wt := 2) (Nat.le_of_eq rfl) (hb hby at_274) ?_
  intro v_ T303 h305 W304 hq_
  obtain ⟨rfl, Y3⟩ := hq_
  refine Go.by (fun t9_ q9_ => XS.ladd W304.here W304.hx rfl (hb hby at_277) rfl (XS.iconst W304.here W304.hx rfl (hb hby at_278) (XS.iload W304.here W304.hx rfl (hb hby at_279) rfl (XS.iload W304.here W304.hx rfl (hb hby at_281) rfl (XS.lloadN W304.here W304.hx rfl (hb hby at_283) rfl q9_))))) ?_
  show Go _ _ _ _ _ _ _ _ _ (T303.setTop (mkF m 284 #[.val (.long p0), .second, .val (.long p1), .second, .val (.int p2), .val (.int p3), .val (.int aa), .val (.int bb), .val (.int lo), .val (.int hi), .val (.ref ca), .val (.ref r), .unset, .unset] [(.long p0), (.int hi), (.int lo), (.int (4 : Int32)), (.long ((((tm p0 (0 : Int32) lo hi) + (tm p0 (1 : Int32) lo hi)) + (tm p0 (2 : Int32) lo hi)) + (tm p0 (3 : Int32) lo hi)))]))
  refine W304.callS (y := (⟨"com/example/kontraktbuch/kontraktbuch/NotationNumberPinLaw", "term", "(IIIJ)J"⟩ : MethodName)) (wd49 hw) (wd50 hw) (wd10 hw) (wd51 hw) (by decide) (c_tm l Z a0 hw hEL h305 W304.old (4 : Int32) lo hi p0 (fun y => idx_of _ (by decide) hlh.2.2 y)) all0 (by decide) (by decide) (k' := 8) (n' := 74) rfl rfl (by decide) (by decide) (by rw [hml]; rfl) (argsL := [(.int (4 : Int32)), (.int lo), (.int hi), (.long p0)]) (rest := [(.long ((((tm p0 (0 : Int32) lo hi) + (tm p0 (1 : Int32) lo hi)) + (tm p0 (2 : Int32) lo hi)) + (tm p0 (3 : Int32) lo hi)))]) (lenOf pd_5 rfl) rfl rfl (Wt := 2) (Nat.le_of_eq rfl) (hb hby at_284) ?_
  intro v_ T306 h308 W307 hq_
  obtain ⟨rfl, Y4⟩ := hq_
  refine Go.by (fun t9_ q9_ => XS.ladd W307.here W307.hx rfl (hb hby at_287) rfl (XS.iconst W307.here W307.hx rfl (hb hby at_288) (XS.iload W307.here W307.hx rfl (hb hby at_289) rfl (XS.iload W307.here W307.hx rfl (hb hby at_291) rfl (XS.lloadN W307.here W307.hx rfl (hb hby at_293) rfl q9_))))) ?_
  show Go _ _ _ _ _ _ _ _ _ (T306.setTop (mkF m 294 #[.val (.long p0), .second, .val (.long p1), .second, .val (.int p2), .val (.int p3), .val (.int aa), .val (.int bb), .val (.int lo), .val (.int hi), .val (.ref ca), .val (.ref r), .unset, .unset] [(.long p0), (.int hi), (.int lo), (.int (5 : Int32)), (.long (((((tm p0 (0 : Int32) lo hi) + (tm p0 (1 : Int32) lo hi)) + (tm p0 (2 : Int32) lo hi)) + (tm p0 (3 : Int32) lo hi)) + (tm p0 (4 : Int32) lo hi)))]))
  refine W307.callS (y := (⟨"com/example/kontraktbuch/kontraktbuch/NotationNumberPinLaw", "term", "(IIIJ)J"⟩ : MethodName)) (wd49 hw) (wd50 hw) (wd10 hw) (wd51 hw) (by decide) (c_tm l Z a0 hw hEL h308 W307.old (5 : Int32) lo hi p0 (fun y => idx_of _ (by decide) hlh.2.2 y)) all0 (by decide) (by decide) (k' := 9) (n' := 84) rfl rfl (by decide) (by decide) (by rw [hml]; rfl) (argsL := [(.int (5 : Int32)), (.int lo), (.int hi), (.long p0)]) (rest := [(.long (((((tm p0 (0 : Int32) lo hi) + (tm p0 (1 : Int32) lo hi)) + (tm p0 (2 : Int32) lo hi)) + (tm p0 (3 : Int32) lo hi)) + (tm p0 (4 : Int32) lo hi)))]) (lenOf pd_5 rfl) rfl rfl (Wt := 2) (Nat.le_of_eq rfl) (hb hby at_294) ?_
  intro v_ T309 h311 W310 hq_
  obtain ⟨rfl, Y5⟩ := hq_
  refine Go.by (fun t9_ q9_ => XS.ladd W310.here W310.hx rfl (hb hby at_297) rfl (XS.bipush W310.here W310.hx rfl (hb hby at_298) (XS.iload W310.here W310.hx rfl (hb hby at_300) rfl (XS.iload W310.here W310.hx rfl (hb hby at_302) rfl (XS.lloadN W310.here W310.hx rfl (hb hby at_304) rfl q9_))))) ?_
  show Go _ _ _ _ _ _ _ _ _ (T309.setTop (mkF m 305 #[.val (.long p0), .second, .val (.long p1), .second, .val (.int p2), .val (.int p3), .val (.int aa), .val (.int bb), .val (.int lo), .val (.int hi), .val (.ref ca), .val (.ref r), .unset, .unset] [(.long p0), (.int hi), (.int lo), (.int (6 : Int32)), (.long ((((((tm p0 (0 : Int32) lo hi) + (tm p0 (1 : Int32) lo hi)) + (tm p0 (2 : Int32) lo hi)) + (tm p0 (3 : Int32) lo hi)) + (tm p0 (4 : Int32) lo hi)) + (tm p0 (5 : Int32) lo hi)))]))
  refine W310.callS (y := (⟨"com/example/kontraktbuch/kontraktbuch/NotationNumberPinLaw", "term", "(IIIJ)J"⟩ : MethodName)) (wd49 hw) (wd50 hw) (wd10 hw) (wd51 hw) (by decide) (c_tm l Z a0 hw hEL h311 W310.old (6 : Int32) lo hi p0 (fun y => idx_of _ (by decide) hlh.2.2 y)) all0 (by decide) (by decide) (k' := 10) (n' := 94) rfl rfl (by decide) (by decide) (by rw [hml]; rfl) (argsL := [(.int (6 : Int32)), (.int lo), (.int hi), (.long p0)]) (rest := [(.long ((((((tm p0 (0 : Int32) lo hi) + (tm p0 (1 : Int32) lo hi)) + (tm p0 (2 : Int32) lo hi)) + (tm p0 (3 : Int32) lo hi)) + (tm p0 (4 : Int32) lo hi)) + (tm p0 (5 : Int32) lo hi)))]) (lenOf pd_5 rfl) rfl rfl (Wt := 2) (Nat.le_of_eq rfl) (hb hby at_305) ?_
  intro v_ T312 h314 W313 hq_
  obtain ⟨rfl, Y6⟩ := hq_
  refine Go.by (fun t9_ q9_ => XS.ladd W313.here W313.hx rfl (hb hby at_308) rfl (XS.bipush W313.here W313.hx rfl (hb hby at_309) (XS.iload W313.here W313.hx rfl (hb hby at_311) rfl (XS.iload W313.here W313.hx rfl (hb hby at_313) rfl (XS.lloadN W313.here W313.hx rfl (hb hby at_315) rfl q9_))))) ?_
  show Go _ _ _ _ _ _ _ _ _ (T312.setTop (mkF m 316 #[.val (.long p0), .second, .val (.long p1), .second, .val (.int p2), .val (.int p3), .val (.int aa), .val (.int bb), .val (.int lo), .val (.int hi), .val (.ref ca), .val (.ref r), .unset, .unset] [(.long p0), (.int hi), (.int lo), (.int (7 : Int32)), (.long (((((((tm p0 (0 : Int32) lo hi) + (tm p0 (1 : Int32) lo hi)) + (tm p0 (2 : Int32) lo hi)) + (tm p0 (3 : Int32) lo hi)) + (tm p0 (4 : Int32) lo hi)) + (tm p0 (5 : Int32) lo hi)) + (tm p0 (6 : Int32) lo hi)))]))
  refine W313.callS (y := (⟨"com/example/kontraktbuch/kontraktbuch/NotationNumberPinLaw", "term", "(IIIJ)J"⟩ : MethodName)) (wd49 hw) (wd50 hw) (wd10 hw) (wd51 hw) (by decide) (c_tm l Z a0 hw hEL h314 W313.old (7 : Int32) lo hi p0 (fun y => idx_of _ (by decide) hlh.2.2 y)) all0 (by decide) (by decide) (k' := 11) (n' := 104) rfl rfl (by decide) (by decide) (by rw [hml]; rfl) (argsL := [(.int (7 : Int32)), (.int lo), (.int hi), (.long p0)]) (rest := [(.long (((((((tm p0 (0 : Int32) lo hi) + (tm p0 (1 : Int32) lo hi)) + (tm p0 (2 : Int32) lo hi)) + (tm p0 (3 : Int32) lo hi)) + (tm p0 (4 : Int32) lo hi)) + (tm p0 (5 : Int32) lo hi)) + (tm p0 (6 : Int32) lo hi)))]) (lenOf pd_5 rfl) rfl rfl (Wt := 2) (Nat.le_of_eq rfl) (hb hby at_316) ?_
  intro v_ T315 h317 W316 hq_
  obtain ⟨rfl, Y7⟩ := hq_
  refine Go.by (fun t9_ q9_ => XS.ladd W316.here W316.hx rfl (hb hby at_319) rfl (XS.bipush W316.here W316.hx rfl (hb hby at_320) (XS.iload W316.here W316.hx rfl (hb hby at_322) rfl (XS.iload W316.here W316.hx rfl (hb hby at_324) rfl (XS.lloadN W316.here W316.hx rfl (hb hby at_326) rfl q9_))))) ?_
  show Go _ _ _ _ _ _ _ _ _ (T315.setTop (mkF m 327 #[.val (.long p0), .second, .val (.long p1), .second, .val (.int p2), .val (.int p3), .val (.int aa), .val (.int bb), .val (.int lo), .val (.int hi), .val (.ref ca), .val (.ref r), .unset, .unset] [(.long p0), (.int hi), (.int lo), (.int (8 : Int32)), (.long ((((((((tm p0 (0 : Int32) lo hi) + (tm p0 (1 : Int32) lo hi)) + (tm p0 (2 : Int32) lo hi)) + (tm p0 (3 : Int32) lo hi)) + (tm p0 (4 : Int32) lo hi)) + (tm p0 (5 : Int32) lo hi)) + (tm p0 (6 : Int32) lo hi)) + (tm p0 (7 : Int32) lo hi)))]))
  refine W316.callS (y := (⟨"com/example/kontraktbuch/kontraktbuch/NotationNumberPinLaw", "term", "(IIIJ)J"⟩ : MethodName)) (wd49 hw) (wd50 hw) (wd10 hw) (wd51 hw) (by decide) (c_tm l Z a0 hw hEL h317 W316.old (8 : Int32) lo hi p0 (fun y => idx_of _ (by decide) hlh.2.2 y)) all0 (by decide) (by decide) (k' := 12) (n' := 114) rfl rfl (by decide) (by decide) (by rw [hml]; rfl) (argsL := [(.int (8 : Int32)), (.int lo), (.int hi), (.long p0)]) (rest := [(.long ((((((((tm p0 (0 : Int32) lo hi) + (tm p0 (1 : Int32) lo hi)) + (tm p0 (2 : Int32) lo hi)) + (tm p0 (3 : Int32) lo hi)) + (tm p0 (4 : Int32) lo hi)) + (tm p0 (5 : Int32) lo hi)) + (tm p0 (6 : Int32) lo hi)) + (tm p0 (7 : Int32) lo hi)))]) (lenOf pd_5 rfl) rfl rfl (Wt := 2) (Nat.le_of_eq rfl) (hb hby at_327) ?_
  intro v_ T318 h320 W319 hq_
  obtain ⟨rfl, Y8⟩ := hq_
  refine Go.by (fun t9_ q9_ => XS.ladd W319.here W319.hx rfl (hb hby at_330) rfl (XS.bipush W319.here W319.hx rfl (hb hby at_331) (XS.iload W319.here W319.hx rfl (hb hby at_333) rfl (XS.iload W319.here W319.hx rfl (hb hby at_335) rfl (XS.lloadN W319.here W319.hx rfl (hb hby at_337) rfl q9_))))) ?_
  show Go _ _ _ _ _ _ _ _ _ (T318.setTop (mkF m 338 #[.val (.long p0), .second, .val (.long p1), .second, .val (.int p2), .val (.int p3), .val (.int aa), .val (.int bb), .val (.int lo), .val (.int hi), .val (.ref ca), .val (.ref r), .unset, .unset] [(.long p0), (.int hi), (.int lo), (.int (9 : Int32)), (.long (((((((((tm p0 (0 : Int32) lo hi) + (tm p0 (1 : Int32) lo hi)) + (tm p0 (2 : Int32) lo hi)) + (tm p0 (3 : Int32) lo hi)) + (tm p0 (4 : Int32) lo hi)) + (tm p0 (5 : Int32) lo hi)) + (tm p0 (6 : Int32) lo hi)) + (tm p0 (7 : Int32) lo hi)) + (tm p0 (8 : Int32) lo hi)))]))
  refine W319.callS (y := (⟨"com/example/kontraktbuch/kontraktbuch/NotationNumberPinLaw", "term", "(IIIJ)J"⟩ : MethodName)) (wd49 hw) (wd50 hw) (wd10 hw) (wd51 hw) (by decide) (c_tm l Z a0 hw hEL h320 W319.old (9 : Int32) lo hi p0 (fun y => idx_of _ (by decide) hlh.2.2 y)) all0 (by decide) (by decide) (k' := 13) (n' := 124) rfl rfl (by decide) (by decide) (by rw [hml]; rfl) (argsL := [(.int (9 : Int32)), (.int lo), (.int hi), (.long p0)]) (rest := [(.long (((((((((tm p0 (0 : Int32) lo hi) + (tm p0 (1 : Int32) lo hi)) + (tm p0 (2 : Int32) lo hi)) + (tm p0 (3 : Int32) lo hi)) + (tm p0 (4 : Int32) lo hi)) + (tm p0 (5 : Int32) lo hi)) + (tm p0 (6 : Int32) lo hi)) + (tm p0 (7 : Int32) lo hi)) + (tm p0 (8 : Int32) lo hi)))]) (lenOf pd_5 rfl) rfl rfl (Wt := 2) (Nat.le_of_eq rfl) (hb hby at_338) ?_
  intro v_ T321 h323 W322 hq_
  obtain ⟨rfl, Y9⟩ := hq_
  refine Go.by (fun t9_ q9_ => XS.ladd W322.here W322.hx rfl (hb hby at_341) rfl (XS.lstore W322.here W322.hx rfl (hb hby at_342) rfl (l' := #[.val (.long p0), .second, .val (.long p1), .second, .val (.int p2), .val (.int p3), .val (.int aa), .val (.int bb), .val (.int lo), .val (.int hi), .val (.ref ca), .val (.ref r), .val (.long ((((((((((tm p0 (0 : Int32) lo hi) + (tm p0 (1 : Int32) lo hi)) + (tm p0 (2 : Int32) lo hi)) + (tm p0 (3 : Int32) lo hi)) + (tm p0 (4 : Int32) lo hi)) + (tm p0 (5 : Int32) lo hi)) + (tm p0 (6 : Int32) lo hi)) + (tm p0 (7 : Int32) lo hi)) + (tm p0 (8 : Int32) lo hi)) + (tm p0 (9 : Int32) lo hi))), .second]) rfl (XS.lload W322.here W322.hx rfl (hb hby at_344) rfl q9_))) ?_
  show Go _ _ _ _ _ _ _ _ _ (T321.setTop (mkF m 346 #[.val (.long p0), .second, .val (.long p1), .second, .val (.int p2), .val (.int p3), .val (.int aa), .val (.int bb), .val (.int lo), .val (.int hi), .val (.ref ca), .val (.ref r), .val (.long ((((((((((tm p0 (0 : Int32) lo hi) + (tm p0 (1 : Int32) lo hi)) + (tm p0 (2 : Int32) lo hi)) + (tm p0 (3 : Int32) lo hi)) + (tm p0 (4 : Int32) lo hi)) + (tm p0 (5 : Int32) lo hi)) + (tm p0 (6 : Int32) lo hi)) + (tm p0 (7 : Int32) lo hi)) + (tm p0 (8 : Int32) lo hi)) + (tm p0 (9 : Int32) lo hi))), .second] [(.long ((((((((((tm p0 (0 : Int32) lo hi) + (tm p0 (1 : Int32) lo hi)) + (tm p0 (2 : Int32) lo hi)) + (tm p0 (3 : Int32) lo hi)) + (tm p0 (4 : Int32) lo hi)) + (tm p0 (5 : Int32) lo hi)) + (tm p0 (6 : Int32) lo hi)) + (tm p0 (7 : Int32) lo hi)) + (tm p0 (8 : Int32) lo hi)) + (tm p0 (9 : Int32) lo hi)))]))
  refine W322.ldcJ (wd64 hw) (hb hby at_346) ?_
  refine Go.by (fun t9_ q9_ => XS.lcmp W322.here W322.hx rfl (hb hby at_349) rfl q9_) ?_
  by_cases hgt : ((((((((((tm p0 (0 : Int32) lo hi) + (tm p0 (1 : Int32) lo hi)) + (tm p0 (2 : Int32) lo hi)) + (tm p0 (3 : Int32) lo hi)) + (tm p0 (4 : Int32) lo hi)) + (tm p0 (5 : Int32) lo hi)) + (tm p0 (6 : Int32) lo hi)) + (tm p0 (7 : Int32) lo hi)) + (tm p0 (8 : Int32) lo hi)) + (tm p0 (9 : Int32) lo hi)) > (2147483647 : Int64)
  · refine Go.by (fun t9_ q9_ => XS.ifNo W322.here W322.hx rfl (hb hby at_350) rfl ((if0 _ _).trans (tlt (by rw [if_pos hgt]; decide)).2.2.2) q9_) ?_
    refine Go.by (fun t9_ q9_ => XS.iconst W322.here W322.hx rfl (hb hby at_353) q9_) ?_
    show Go _ _ _ _ _ _ _ _ _ (T321.setTop (mkF m 354 #[.val (.long p0), .second, .val (.long p1), .second, .val (.int p2), .val (.int p3), .val (.int aa), .val (.int bb), .val (.int lo), .val (.int hi), .val (.ref ca), .val (.ref r), .val (.long ((((((((((tm p0 (0 : Int32) lo hi) + (tm p0 (1 : Int32) lo hi)) + (tm p0 (2 : Int32) lo hi)) + (tm p0 (3 : Int32) lo hi)) + (tm p0 (4 : Int32) lo hi)) + (tm p0 (5 : Int32) lo hi)) + (tm p0 (6 : Int32) lo hi)) + (tm p0 (7 : Int32) lo hi)) + (tm p0 (8 : Int32) lo hi)) + (tm p0 (9 : Int32) lo hi))), .second] [(.int (1 : Int32))]))
    exact W322.retN (z' := (1 : Int32)) (by decide) (by decide) hret (by simp) (hb hby at_354) rfl rfl
  · refine Go.by (fun t9_ q9_ => XS.ifYes W322.here W322.hx rfl (pc0 := 350) (pc' := 355) rfl (hb hby at_350) rfl ((if0 _ _).trans (flt (by rw [if_neg hgt]; split <;> decide)).2.2.2) (by decide) (by decide) q9_) ?_
    refine Go.by (fun t9_ q9_ => XS.aload W322.here W322.hx rfl (hb hby at_355) rfl rfl (XS.iload W322.here W322.hx rfl (hb hby at_357) rfl (XS.iload W322.here W322.hx rfl (hb hby at_359) rfl q9_))) ?_
    have X324 : Ext h291 h299 := (Ext.trans' Y0 Y1)
    have X325 : Ext h291 h302 := (Ext.trans' X324 Y2)
    have X326 : Ext h291 h305 := (Ext.trans' X325 Y3)
    have X327 : Ext h291 h308 := (Ext.trans' X326 Y4)
    have X328 : Ext h291 h311 := (Ext.trans' X327 Y5)
    have X329 : Ext h291 h314 := (Ext.trans' X328 Y6)
    have X330 : Ext h291 h317 := (Ext.trans' X329 Y7)
    have X331 : Ext h291 h320 := (Ext.trans' X330 Y8)
    have X332 : Ext h291 h323 := (Ext.trans' X331 Y9)
    show Go _ _ _ _ _ _ _ _ _ (T321.setTop (mkF m 361 #[.val (.long p0), .second, .val (.long p1), .second, .val (.int p2), .val (.int p3), .val (.int aa), .val (.int bb), .val (.int lo), .val (.int hi), .val (.ref ca), .val (.ref r), .val (.long ((((((((((tm p0 (0 : Int32) lo hi) + (tm p0 (1 : Int32) lo hi)) + (tm p0 (2 : Int32) lo hi)) + (tm p0 (3 : Int32) lo hi)) + (tm p0 (4 : Int32) lo hi)) + (tm p0 (5 : Int32) lo hi)) + (tm p0 (6 : Int32) lo hi)) + (tm p0 (7 : Int32) lo hi)) + (tm p0 (8 : Int32) lo hi)) + (tm p0 (9 : Int32) lo hi))), .second] [(.int hi), (.int lo), (.ref r)]))
    refine W322.callSp (y := (⟨"com/example/kontraktbuch/kontraktbuch/Notation", "number", "(Ljava/lang/String;II)I"⟩ : MethodName)) (wd65 hw) (wd66 hw) (wd67 hw) (wd68 hw) (by decide) (c_num l Z a0 hw hEL h323 W322.old r u0 u1 u2 u3 u4 u5 u6 u7 u8 u9 lo hi G1 fm SG1 hG SFM rfm (S_r.ext X332) (fun c hc => by simp only [List.mem_cons, List.not_mem_nil, or_false] at hc; rcases hc with rfl | rfl | rfl | rfl | rfl | rfl | rfl | rfl | rfl | rfl; exact r_u0.2; exact r_u1.2; exact r_u2.2; exact r_u3.2; exact r_u4.2; exact r_u5.2; exact r_u6.2; exact r_u7.2; exact r_u8.2; exact r_u9.2) (of_rng hlh.1 (by omega)) (by rw [Int32.lt_iff_toInt_lt]; have e10 : (10 : Int32).toInt = 10 := rfl; omega)) all0 (by decide) (by decide) (k' := 13) (n' := 124) rfl rfl (by decide) (by decide) (by rw [hml]; rfl) (argsL := [(.ref r), (.int lo), (.int hi)]) (rest := []) (lenOf pd_6 rfl) rfl rfl (Wt := 0) (Nat.le_of_eq rfl) (hb hby at_361) ?_
    intro T333 W334
    refine Go.by (fun t9_ q9_ => XS.lload W334.here W334.hx rfl (hb hby at_364) rfl (XS.l2i W334.here W334.hx rfl (hb hby at_366) rfl q9_)) ?_
    refine Go.by (fun t9_ q9_ => XS.icmpNo W334.here W334.hx rfl (hb hby at_367) rfl (teq (PLW lo hi u0 u1 u2 u3 u4 u5 u6 u7 u8 u9 hlh.1 hlh.2.1 hlh.2.2 e_u0 e_u1 e_u2 e_u3 e_u4 e_u5 e_u6 e_u7 e_u8 e_u9 hgt)).2 q9_) ?_
    refine Go.by (fun t9_ q9_ => XS.iconst W334.here W334.hx rfl (hb hby at_370) (XS.goto W334.here W334.hx rfl (pc0 := 371) (pc' := 375) rfl (hb hby at_371) (by decide) (by decide) q9_)) ?_
    show Go _ _ _ _ _ _ _ _ _ (T333.setTop (mkF m 375 #[.val (.long p0), .second, .val (.long p1), .second, .val (.int p2), .val (.int p3), .val (.int aa), .val (.int bb), .val (.int lo), .val (.int hi), .val (.ref ca), .val (.ref r), .val (.long ((((((((((tm p0 (0 : Int32) lo hi) + (tm p0 (1 : Int32) lo hi)) + (tm p0 (2 : Int32) lo hi)) + (tm p0 (3 : Int32) lo hi)) + (tm p0 (4 : Int32) lo hi)) + (tm p0 (5 : Int32) lo hi)) + (tm p0 (6 : Int32) lo hi)) + (tm p0 (7 : Int32) lo hi)) + (tm p0 (8 : Int32) lo hi)) + (tm p0 (9 : Int32) lo hi))), .second] [(.int (1 : Int32))]))
    exact W334.retN (z' := (1 : Int32)) (by decide) (by decide) hret (by simp) (hb hby at_375) rfl rfl
theorem ne_0_0 (p0 : Int64) (u0 u1 u2 u3 u4 u5 u6 u7 u8 u9 : Int32) : num10 [u0, u1, u2, u3, u4, u5, u6, u7, u8, u9] (0 : Int32) (0 : Int32) = ((((((((((tm p0 (0 : Int32) (0 : Int32) (0 : Int32)) + (tm p0 (1 : Int32) (0 : Int32) (0 : Int32))) + (tm p0 (2 : Int32) (0 : Int32) (0 : Int32))) + (tm p0 (3 : Int32) (0 : Int32) (0 : Int32))) + (tm p0 (4 : Int32) (0 : Int32) (0 : Int32))) + (tm p0 (5 : Int32) (0 : Int32) (0 : Int32))) + (tm p0 (6 : Int32) (0 : Int32) (0 : Int32))) + (tm p0 (7 : Int32) (0 : Int32) (0 : Int32))) + (tm p0 (8 : Int32) (0 : Int32) (0 : Int32))) + (tm p0 (9 : Int32) (0 : Int32) (0 : Int32))).toInt32 := by
  rw [show tm p0 (0 : Int32) (0 : Int32) (0 : Int32) = (0 : Int64) from by unfold tm; rw [if_neg (by decide), if_neg (by decide)]]
  rw [show tm p0 (1 : Int32) (0 : Int32) (0 : Int32) = (0 : Int64) from by unfold tm; rw [if_neg (by decide), if_neg (by decide)]]
  rw [show tm p0 (2 : Int32) (0 : Int32) (0 : Int32) = (0 : Int64) from by unfold tm; rw [if_neg (by decide), if_neg (by decide)]]
  rw [show tm p0 (3 : Int32) (0 : Int32) (0 : Int32) = (0 : Int64) from by unfold tm; rw [if_neg (by decide), if_neg (by decide)]]
  rw [show tm p0 (4 : Int32) (0 : Int32) (0 : Int32) = (0 : Int64) from by unfold tm; rw [if_neg (by decide), if_neg (by decide)]]
  rw [show tm p0 (5 : Int32) (0 : Int32) (0 : Int32) = (0 : Int64) from by unfold tm; rw [if_neg (by decide), if_neg (by decide)]]
  rw [show tm p0 (6 : Int32) (0 : Int32) (0 : Int32) = (0 : Int64) from by unfold tm; rw [if_neg (by decide), if_neg (by decide)]]
  rw [show tm p0 (7 : Int32) (0 : Int32) (0 : Int32) = (0 : Int64) from by unfold tm; rw [if_neg (by decide), if_neg (by decide)]]
  rw [show tm p0 (8 : Int32) (0 : Int32) (0 : Int32) = (0 : Int64) from by unfold tm; rw [if_neg (by decide), if_neg (by decide)]]
  rw [show tm p0 (9 : Int32) (0 : Int32) (0 : Int32) = (0 : Int64) from by unfold tm; rw [if_neg (by decide), if_neg (by decide)]]
  simp only [Int64.toInt32_add, Int64.toInt32_mul, Int32.toInt32_toInt64, show Int64.toInt32 0 = 0 from rfl, show Int64.toInt32 1 = 1 from rfl, show Int64.toInt32 10 = 10 from rfl, show Int64.toInt32 100 = 100 from rfl, show Int64.toInt32 1000 = 1000 from rfl, show Int64.toInt32 10000 = 10000 from rfl, show Int64.toInt32 100000 = 100000 from rfl, show Int64.toInt32 1000000 = 1000000 from rfl, show Int64.toInt32 10000000 = 10000000 from rfl, show Int64.toInt32 100000000 = 100000000 from rfl, show Int64.toInt32 1000000000 = 1000000000 from rfl]
  show numr [u0, u1, u2, u3, u4, u5, u6, u7, u8, u9] (0 : Int32) (0 : Int32) 0 = _
  rw [numr_c, if_neg (by decide)]
  grind
theorem ne_0_1 (p0 : Int64) (u0 u1 u2 u3 u4 u5 u6 u7 u8 u9 : Int32) : num10 [((48 : Int32) + dgt p0 (0 : Int32)), u1, u2, u3, u4, u5, u6, u7, u8, u9] (0 : Int32) (1 : Int32) = ((((((((((tm p0 (0 : Int32) (0 : Int32) (1 : Int32)) + (tm p0 (1 : Int32) (0 : Int32) (1 : Int32))) + (tm p0 (2 : Int32) (0 : Int32) (1 : Int32))) + (tm p0 (3 : Int32) (0 : Int32) (1 : Int32))) + (tm p0 (4 : Int32) (0 : Int32) (1 : Int32))) + (tm p0 (5 : Int32) (0 : Int32) (1 : Int32))) + (tm p0 (6 : Int32) (0 : Int32) (1 : Int32))) + (tm p0 (7 : Int32) (0 : Int32) (1 : Int32))) + (tm p0 (8 : Int32) (0 : Int32) (1 : Int32))) + (tm p0 (9 : Int32) (0 : Int32) (1 : Int32))).toInt32 := by
  rw [show tm p0 (0 : Int32) (0 : Int32) (1 : Int32) = (dgt p0 (0 : Int32)).toInt64 * 1 from by unfold tm; rw [if_neg (by decide), if_pos (by decide)]; rfl]
  rw [show tm p0 (1 : Int32) (0 : Int32) (1 : Int32) = (0 : Int64) from by unfold tm; rw [if_neg (by decide), if_neg (by decide)]]
  rw [show tm p0 (2 : Int32) (0 : Int32) (1 : Int32) = (0 : Int64) from by unfold tm; rw [if_neg (by decide), if_neg (by decide)]]
  rw [show tm p0 (3 : Int32) (0 : Int32) (1 : Int32) = (0 : Int64) from by unfold tm; rw [if_neg (by decide), if_neg (by decide)]]
  rw [show tm p0 (4 : Int32) (0 : Int32) (1 : Int32) = (0 : Int64) from by unfold tm; rw [if_neg (by decide), if_neg (by decide)]]
  rw [show tm p0 (5 : Int32) (0 : Int32) (1 : Int32) = (0 : Int64) from by unfold tm; rw [if_neg (by decide), if_neg (by decide)]]
  rw [show tm p0 (6 : Int32) (0 : Int32) (1 : Int32) = (0 : Int64) from by unfold tm; rw [if_neg (by decide), if_neg (by decide)]]
  rw [show tm p0 (7 : Int32) (0 : Int32) (1 : Int32) = (0 : Int64) from by unfold tm; rw [if_neg (by decide), if_neg (by decide)]]
  rw [show tm p0 (8 : Int32) (0 : Int32) (1 : Int32) = (0 : Int64) from by unfold tm; rw [if_neg (by decide), if_neg (by decide)]]
  rw [show tm p0 (9 : Int32) (0 : Int32) (1 : Int32) = (0 : Int64) from by unfold tm; rw [if_neg (by decide), if_neg (by decide)]]
  generalize dgt p0 (0 : Int32) = d0
  simp only [Int64.toInt32_add, Int64.toInt32_mul, Int32.toInt32_toInt64, show Int64.toInt32 0 = 0 from rfl, show Int64.toInt32 1 = 1 from rfl, show Int64.toInt32 10 = 10 from rfl, show Int64.toInt32 100 = 100 from rfl, show Int64.toInt32 1000 = 1000 from rfl, show Int64.toInt32 10000 = 10000 from rfl, show Int64.toInt32 100000 = 100000 from rfl, show Int64.toInt32 1000000 = 1000000 from rfl, show Int64.toInt32 10000000 = 10000000 from rfl, show Int64.toInt32 100000000 = 100000000 from rfl, show Int64.toInt32 1000000000 = 1000000000 from rfl]
  show numr [(48 + d0), u1, u2, u3, u4, u5, u6, u7, u8, u9] (0 : Int32) (1 : Int32) 0 = _
  rw [numr_c, if_pos (by decide)]
  rw [numr_c, if_neg (by decide)]
  grind
theorem ne_0_2 (p0 : Int64) (u0 u1 u2 u3 u4 u5 u6 u7 u8 u9 : Int32) : num10 [((48 : Int32) + dgt p0 (0 : Int32)), ((48 : Int32) + dgt p0 (1 : Int32)), u2, u3, u4, u5, u6, u7, u8, u9] (0 : Int32) (2 : Int32) = ((((((((((tm p0 (0 : Int32) (0 : Int32) (2 : Int32)) + (tm p0 (1 : Int32) (0 : Int32) (2 : Int32))) + (tm p0 (2 : Int32) (0 : Int32) (2 : Int32))) + (tm p0 (3 : Int32) (0 : Int32) (2 : Int32))) + (tm p0 (4 : Int32) (0 : Int32) (2 : Int32))) + (tm p0 (5 : Int32) (0 : Int32) (2 : Int32))) + (tm p0 (6 : Int32) (0 : Int32) (2 : Int32))) + (tm p0 (7 : Int32) (0 : Int32) (2 : Int32))) + (tm p0 (8 : Int32) (0 : Int32) (2 : Int32))) + (tm p0 (9 : Int32) (0 : Int32) (2 : Int32))).toInt32 := by
  rw [show tm p0 (0 : Int32) (0 : Int32) (2 : Int32) = (dgt p0 (0 : Int32)).toInt64 * 10 from by unfold tm; rw [if_neg (by decide), if_pos (by decide)]; rfl]
  rw [show tm p0 (1 : Int32) (0 : Int32) (2 : Int32) = (dgt p0 (1 : Int32)).toInt64 * 1 from by unfold tm; rw [if_neg (by decide), if_pos (by decide)]; rfl]
  rw [show tm p0 (2 : Int32) (0 : Int32) (2 : Int32) = (0 : Int64) from by unfold tm; rw [if_neg (by decide), if_neg (by decide)]]
  rw [show tm p0 (3 : Int32) (0 : Int32) (2 : Int32) = (0 : Int64) from by unfold tm; rw [if_neg (by decide), if_neg (by decide)]]
  rw [show tm p0 (4 : Int32) (0 : Int32) (2 : Int32) = (0 : Int64) from by unfold tm; rw [if_neg (by decide), if_neg (by decide)]]
  rw [show tm p0 (5 : Int32) (0 : Int32) (2 : Int32) = (0 : Int64) from by unfold tm; rw [if_neg (by decide), if_neg (by decide)]]
  rw [show tm p0 (6 : Int32) (0 : Int32) (2 : Int32) = (0 : Int64) from by unfold tm; rw [if_neg (by decide), if_neg (by decide)]]
  rw [show tm p0 (7 : Int32) (0 : Int32) (2 : Int32) = (0 : Int64) from by unfold tm; rw [if_neg (by decide), if_neg (by decide)]]
  rw [show tm p0 (8 : Int32) (0 : Int32) (2 : Int32) = (0 : Int64) from by unfold tm; rw [if_neg (by decide), if_neg (by decide)]]
  rw [show tm p0 (9 : Int32) (0 : Int32) (2 : Int32) = (0 : Int64) from by unfold tm; rw [if_neg (by decide), if_neg (by decide)]]
  generalize dgt p0 (0 : Int32) = d0
  generalize dgt p0 (1 : Int32) = d1
  simp only [Int64.toInt32_add, Int64.toInt32_mul, Int32.toInt32_toInt64, show Int64.toInt32 0 = 0 from rfl, show Int64.toInt32 1 = 1 from rfl, show Int64.toInt32 10 = 10 from rfl, show Int64.toInt32 100 = 100 from rfl, show Int64.toInt32 1000 = 1000 from rfl, show Int64.toInt32 10000 = 10000 from rfl, show Int64.toInt32 100000 = 100000 from rfl, show Int64.toInt32 1000000 = 1000000 from rfl, show Int64.toInt32 10000000 = 10000000 from rfl, show Int64.toInt32 100000000 = 100000000 from rfl, show Int64.toInt32 1000000000 = 1000000000 from rfl]
  show numr [(48 + d0), (48 + d1), u2, u3, u4, u5, u6, u7, u8, u9] (0 : Int32) (2 : Int32) 0 = _
  rw [numr_c, if_pos (by decide)]
  rw [numr_c, if_pos (by decide)]
  rw [numr_c, if_neg (by decide)]
  grind
theorem ne_0_3 (p0 : Int64) (u0 u1 u2 u3 u4 u5 u6 u7 u8 u9 : Int32) : num10 [((48 : Int32) + dgt p0 (0 : Int32)), ((48 : Int32) + dgt p0 (1 : Int32)), ((48 : Int32) + dgt p0 (2 : Int32)), u3, u4, u5, u6, u7, u8, u9] (0 : Int32) (3 : Int32) = ((((((((((tm p0 (0 : Int32) (0 : Int32) (3 : Int32)) + (tm p0 (1 : Int32) (0 : Int32) (3 : Int32))) + (tm p0 (2 : Int32) (0 : Int32) (3 : Int32))) + (tm p0 (3 : Int32) (0 : Int32) (3 : Int32))) + (tm p0 (4 : Int32) (0 : Int32) (3 : Int32))) + (tm p0 (5 : Int32) (0 : Int32) (3 : Int32))) + (tm p0 (6 : Int32) (0 : Int32) (3 : Int32))) + (tm p0 (7 : Int32) (0 : Int32) (3 : Int32))) + (tm p0 (8 : Int32) (0 : Int32) (3 : Int32))) + (tm p0 (9 : Int32) (0 : Int32) (3 : Int32))).toInt32 := by
  rw [show tm p0 (0 : Int32) (0 : Int32) (3 : Int32) = (dgt p0 (0 : Int32)).toInt64 * 100 from by unfold tm; rw [if_neg (by decide), if_pos (by decide)]; rfl]
  rw [show tm p0 (1 : Int32) (0 : Int32) (3 : Int32) = (dgt p0 (1 : Int32)).toInt64 * 10 from by unfold tm; rw [if_neg (by decide), if_pos (by decide)]; rfl]
  rw [show tm p0 (2 : Int32) (0 : Int32) (3 : Int32) = (dgt p0 (2 : Int32)).toInt64 * 1 from by unfold tm; rw [if_neg (by decide), if_pos (by decide)]; rfl]
  rw [show tm p0 (3 : Int32) (0 : Int32) (3 : Int32) = (0 : Int64) from by unfold tm; rw [if_neg (by decide), if_neg (by decide)]]
  rw [show tm p0 (4 : Int32) (0 : Int32) (3 : Int32) = (0 : Int64) from by unfold tm; rw [if_neg (by decide), if_neg (by decide)]]
  rw [show tm p0 (5 : Int32) (0 : Int32) (3 : Int32) = (0 : Int64) from by unfold tm; rw [if_neg (by decide), if_neg (by decide)]]
  rw [show tm p0 (6 : Int32) (0 : Int32) (3 : Int32) = (0 : Int64) from by unfold tm; rw [if_neg (by decide), if_neg (by decide)]]
  rw [show tm p0 (7 : Int32) (0 : Int32) (3 : Int32) = (0 : Int64) from by unfold tm; rw [if_neg (by decide), if_neg (by decide)]]
  rw [show tm p0 (8 : Int32) (0 : Int32) (3 : Int32) = (0 : Int64) from by unfold tm; rw [if_neg (by decide), if_neg (by decide)]]
  rw [show tm p0 (9 : Int32) (0 : Int32) (3 : Int32) = (0 : Int64) from by unfold tm; rw [if_neg (by decide), if_neg (by decide)]]
  generalize dgt p0 (0 : Int32) = d0
  generalize dgt p0 (1 : Int32) = d1
  generalize dgt p0 (2 : Int32) = d2
  simp only [Int64.toInt32_add, Int64.toInt32_mul, Int32.toInt32_toInt64, show Int64.toInt32 0 = 0 from rfl, show Int64.toInt32 1 = 1 from rfl, show Int64.toInt32 10 = 10 from rfl, show Int64.toInt32 100 = 100 from rfl, show Int64.toInt32 1000 = 1000 from rfl, show Int64.toInt32 10000 = 10000 from rfl, show Int64.toInt32 100000 = 100000 from rfl, show Int64.toInt32 1000000 = 1000000 from rfl, show Int64.toInt32 10000000 = 10000000 from rfl, show Int64.toInt32 100000000 = 100000000 from rfl, show Int64.toInt32 1000000000 = 1000000000 from rfl]
  show numr [(48 + d0), (48 + d1), (48 + d2), u3, u4, u5, u6, u7, u8, u9] (0 : Int32) (3 : Int32) 0 = _
  rw [numr_c, if_pos (by decide)]
  rw [numr_c, if_pos (by decide)]
  rw [numr_c, if_pos (by decide)]
  rw [numr_c, if_neg (by decide)]
  grind
theorem ne_0_4 (p0 : Int64) (u0 u1 u2 u3 u4 u5 u6 u7 u8 u9 : Int32) : num10 [((48 : Int32) + dgt p0 (0 : Int32)), ((48 : Int32) + dgt p0 (1 : Int32)), ((48 : Int32) + dgt p0 (2 : Int32)), ((48 : Int32) + dgt p0 (3 : Int32)), u4, u5, u6, u7, u8, u9] (0 : Int32) (4 : Int32) = ((((((((((tm p0 (0 : Int32) (0 : Int32) (4 : Int32)) + (tm p0 (1 : Int32) (0 : Int32) (4 : Int32))) + (tm p0 (2 : Int32) (0 : Int32) (4 : Int32))) + (tm p0 (3 : Int32) (0 : Int32) (4 : Int32))) + (tm p0 (4 : Int32) (0 : Int32) (4 : Int32))) + (tm p0 (5 : Int32) (0 : Int32) (4 : Int32))) + (tm p0 (6 : Int32) (0 : Int32) (4 : Int32))) + (tm p0 (7 : Int32) (0 : Int32) (4 : Int32))) + (tm p0 (8 : Int32) (0 : Int32) (4 : Int32))) + (tm p0 (9 : Int32) (0 : Int32) (4 : Int32))).toInt32 := by
  rw [show tm p0 (0 : Int32) (0 : Int32) (4 : Int32) = (dgt p0 (0 : Int32)).toInt64 * 1000 from by unfold tm; rw [if_neg (by decide), if_pos (by decide)]; rfl]
  rw [show tm p0 (1 : Int32) (0 : Int32) (4 : Int32) = (dgt p0 (1 : Int32)).toInt64 * 100 from by unfold tm; rw [if_neg (by decide), if_pos (by decide)]; rfl]
  rw [show tm p0 (2 : Int32) (0 : Int32) (4 : Int32) = (dgt p0 (2 : Int32)).toInt64 * 10 from by unfold tm; rw [if_neg (by decide), if_pos (by decide)]; rfl]
  rw [show tm p0 (3 : Int32) (0 : Int32) (4 : Int32) = (dgt p0 (3 : Int32)).toInt64 * 1 from by unfold tm; rw [if_neg (by decide), if_pos (by decide)]; rfl]
  rw [show tm p0 (4 : Int32) (0 : Int32) (4 : Int32) = (0 : Int64) from by unfold tm; rw [if_neg (by decide), if_neg (by decide)]]
  rw [show tm p0 (5 : Int32) (0 : Int32) (4 : Int32) = (0 : Int64) from by unfold tm; rw [if_neg (by decide), if_neg (by decide)]]
  rw [show tm p0 (6 : Int32) (0 : Int32) (4 : Int32) = (0 : Int64) from by unfold tm; rw [if_neg (by decide), if_neg (by decide)]]
  rw [show tm p0 (7 : Int32) (0 : Int32) (4 : Int32) = (0 : Int64) from by unfold tm; rw [if_neg (by decide), if_neg (by decide)]]
  rw [show tm p0 (8 : Int32) (0 : Int32) (4 : Int32) = (0 : Int64) from by unfold tm; rw [if_neg (by decide), if_neg (by decide)]]
  rw [show tm p0 (9 : Int32) (0 : Int32) (4 : Int32) = (0 : Int64) from by unfold tm; rw [if_neg (by decide), if_neg (by decide)]]
  generalize dgt p0 (0 : Int32) = d0
  generalize dgt p0 (1 : Int32) = d1
  generalize dgt p0 (2 : Int32) = d2
  generalize dgt p0 (3 : Int32) = d3
  simp only [Int64.toInt32_add, Int64.toInt32_mul, Int32.toInt32_toInt64, show Int64.toInt32 0 = 0 from rfl, show Int64.toInt32 1 = 1 from rfl, show Int64.toInt32 10 = 10 from rfl, show Int64.toInt32 100 = 100 from rfl, show Int64.toInt32 1000 = 1000 from rfl, show Int64.toInt32 10000 = 10000 from rfl, show Int64.toInt32 100000 = 100000 from rfl, show Int64.toInt32 1000000 = 1000000 from rfl, show Int64.toInt32 10000000 = 10000000 from rfl, show Int64.toInt32 100000000 = 100000000 from rfl, show Int64.toInt32 1000000000 = 1000000000 from rfl]
  show numr [(48 + d0), (48 + d1), (48 + d2), (48 + d3), u4, u5, u6, u7, u8, u9] (0 : Int32) (4 : Int32) 0 = _
  rw [numr_c, if_pos (by decide)]
  rw [numr_c, if_pos (by decide)]
  rw [numr_c, if_pos (by decide)]
  rw [numr_c, if_pos (by decide)]
  rw [numr_c, if_neg (by decide)]
  grind
theorem ne_0_5 (p0 : Int64) (u0 u1 u2 u3 u4 u5 u6 u7 u8 u9 : Int32) : num10 [((48 : Int32) + dgt p0 (0 : Int32)), ((48 : Int32) + dgt p0 (1 : Int32)), ((48 : Int32) + dgt p0 (2 : Int32)), ((48 : Int32) + dgt p0 (3 : Int32)), ((48 : Int32) + dgt p0 (4 : Int32)), u5, u6, u7, u8, u9] (0 : Int32) (5 : Int32) = ((((((((((tm p0 (0 : Int32) (0 : Int32) (5 : Int32)) + (tm p0 (1 : Int32) (0 : Int32) (5 : Int32))) + (tm p0 (2 : Int32) (0 : Int32) (5 : Int32))) + (tm p0 (3 : Int32) (0 : Int32) (5 : Int32))) + (tm p0 (4 : Int32) (0 : Int32) (5 : Int32))) + (tm p0 (5 : Int32) (0 : Int32) (5 : Int32))) + (tm p0 (6 : Int32) (0 : Int32) (5 : Int32))) + (tm p0 (7 : Int32) (0 : Int32) (5 : Int32))) + (tm p0 (8 : Int32) (0 : Int32) (5 : Int32))) + (tm p0 (9 : Int32) (0 : Int32) (5 : Int32))).toInt32 := by
  rw [show tm p0 (0 : Int32) (0 : Int32) (5 : Int32) = (dgt p0 (0 : Int32)).toInt64 * 10000 from by unfold tm; rw [if_neg (by decide), if_pos (by decide)]; rfl]
  rw [show tm p0 (1 : Int32) (0 : Int32) (5 : Int32) = (dgt p0 (1 : Int32)).toInt64 * 1000 from by unfold tm; rw [if_neg (by decide), if_pos (by decide)]; rfl]
  rw [show tm p0 (2 : Int32) (0 : Int32) (5 : Int32) = (dgt p0 (2 : Int32)).toInt64 * 100 from by unfold tm; rw [if_neg (by decide), if_pos (by decide)]; rfl]
  rw [show tm p0 (3 : Int32) (0 : Int32) (5 : Int32) = (dgt p0 (3 : Int32)).toInt64 * 10 from by unfold tm; rw [if_neg (by decide), if_pos (by decide)]; rfl]
  rw [show tm p0 (4 : Int32) (0 : Int32) (5 : Int32) = (dgt p0 (4 : Int32)).toInt64 * 1 from by unfold tm; rw [if_neg (by decide), if_pos (by decide)]; rfl]
  rw [show tm p0 (5 : Int32) (0 : Int32) (5 : Int32) = (0 : Int64) from by unfold tm; rw [if_neg (by decide), if_neg (by decide)]]
  rw [show tm p0 (6 : Int32) (0 : Int32) (5 : Int32) = (0 : Int64) from by unfold tm; rw [if_neg (by decide), if_neg (by decide)]]
  rw [show tm p0 (7 : Int32) (0 : Int32) (5 : Int32) = (0 : Int64) from by unfold tm; rw [if_neg (by decide), if_neg (by decide)]]
  rw [show tm p0 (8 : Int32) (0 : Int32) (5 : Int32) = (0 : Int64) from by unfold tm; rw [if_neg (by decide), if_neg (by decide)]]
  rw [show tm p0 (9 : Int32) (0 : Int32) (5 : Int32) = (0 : Int64) from by unfold tm; rw [if_neg (by decide), if_neg (by decide)]]
  generalize dgt p0 (0 : Int32) = d0
  generalize dgt p0 (1 : Int32) = d1
  generalize dgt p0 (2 : Int32) = d2
  generalize dgt p0 (3 : Int32) = d3
  generalize dgt p0 (4 : Int32) = d4
  simp only [Int64.toInt32_add, Int64.toInt32_mul, Int32.toInt32_toInt64, show Int64.toInt32 0 = 0 from rfl, show Int64.toInt32 1 = 1 from rfl, show Int64.toInt32 10 = 10 from rfl, show Int64.toInt32 100 = 100 from rfl, show Int64.toInt32 1000 = 1000 from rfl, show Int64.toInt32 10000 = 10000 from rfl, show Int64.toInt32 100000 = 100000 from rfl, show Int64.toInt32 1000000 = 1000000 from rfl, show Int64.toInt32 10000000 = 10000000 from rfl, show Int64.toInt32 100000000 = 100000000 from rfl, show Int64.toInt32 1000000000 = 1000000000 from rfl]
  show numr [(48 + d0), (48 + d1), (48 + d2), (48 + d3), (48 + d4), u5, u6, u7, u8, u9] (0 : Int32) (5 : Int32) 0 = _
  rw [numr_c, if_pos (by decide)]
  rw [numr_c, if_pos (by decide)]
  rw [numr_c, if_pos (by decide)]
  rw [numr_c, if_pos (by decide)]
  rw [numr_c, if_pos (by decide)]
  rw [numr_c, if_neg (by decide)]
  grind
theorem ne_0_6 (p0 : Int64) (u0 u1 u2 u3 u4 u5 u6 u7 u8 u9 : Int32) : num10 [((48 : Int32) + dgt p0 (0 : Int32)), ((48 : Int32) + dgt p0 (1 : Int32)), ((48 : Int32) + dgt p0 (2 : Int32)), ((48 : Int32) + dgt p0 (3 : Int32)), ((48 : Int32) + dgt p0 (4 : Int32)), ((48 : Int32) + dgt p0 (5 : Int32)), u6, u7, u8, u9] (0 : Int32) (6 : Int32) = ((((((((((tm p0 (0 : Int32) (0 : Int32) (6 : Int32)) + (tm p0 (1 : Int32) (0 : Int32) (6 : Int32))) + (tm p0 (2 : Int32) (0 : Int32) (6 : Int32))) + (tm p0 (3 : Int32) (0 : Int32) (6 : Int32))) + (tm p0 (4 : Int32) (0 : Int32) (6 : Int32))) + (tm p0 (5 : Int32) (0 : Int32) (6 : Int32))) + (tm p0 (6 : Int32) (0 : Int32) (6 : Int32))) + (tm p0 (7 : Int32) (0 : Int32) (6 : Int32))) + (tm p0 (8 : Int32) (0 : Int32) (6 : Int32))) + (tm p0 (9 : Int32) (0 : Int32) (6 : Int32))).toInt32 := by
  rw [show tm p0 (0 : Int32) (0 : Int32) (6 : Int32) = (dgt p0 (0 : Int32)).toInt64 * 100000 from by unfold tm; rw [if_neg (by decide), if_pos (by decide)]; rfl]
  rw [show tm p0 (1 : Int32) (0 : Int32) (6 : Int32) = (dgt p0 (1 : Int32)).toInt64 * 10000 from by unfold tm; rw [if_neg (by decide), if_pos (by decide)]; rfl]
  rw [show tm p0 (2 : Int32) (0 : Int32) (6 : Int32) = (dgt p0 (2 : Int32)).toInt64 * 1000 from by unfold tm; rw [if_neg (by decide), if_pos (by decide)]; rfl]
  rw [show tm p0 (3 : Int32) (0 : Int32) (6 : Int32) = (dgt p0 (3 : Int32)).toInt64 * 100 from by unfold tm; rw [if_neg (by decide), if_pos (by decide)]; rfl]
  rw [show tm p0 (4 : Int32) (0 : Int32) (6 : Int32) = (dgt p0 (4 : Int32)).toInt64 * 10 from by unfold tm; rw [if_neg (by decide), if_pos (by decide)]; rfl]
  rw [show tm p0 (5 : Int32) (0 : Int32) (6 : Int32) = (dgt p0 (5 : Int32)).toInt64 * 1 from by unfold tm; rw [if_neg (by decide), if_pos (by decide)]; rfl]
  rw [show tm p0 (6 : Int32) (0 : Int32) (6 : Int32) = (0 : Int64) from by unfold tm; rw [if_neg (by decide), if_neg (by decide)]]
  rw [show tm p0 (7 : Int32) (0 : Int32) (6 : Int32) = (0 : Int64) from by unfold tm; rw [if_neg (by decide), if_neg (by decide)]]
  rw [show tm p0 (8 : Int32) (0 : Int32) (6 : Int32) = (0 : Int64) from by unfold tm; rw [if_neg (by decide), if_neg (by decide)]]
  rw [show tm p0 (9 : Int32) (0 : Int32) (6 : Int32) = (0 : Int64) from by unfold tm; rw [if_neg (by decide), if_neg (by decide)]]
  generalize dgt p0 (0 : Int32) = d0
  generalize dgt p0 (1 : Int32) = d1
  generalize dgt p0 (2 : Int32) = d2
  generalize dgt p0 (3 : Int32) = d3
  generalize dgt p0 (4 : Int32) = d4
  generalize dgt p0 (5 : Int32) = d5
  simp only [Int64.toInt32_add, Int64.toInt32_mul, Int32.toInt32_toInt64, show Int64.toInt32 0 = 0 from rfl, show Int64.toInt32 1 = 1 from rfl, show Int64.toInt32 10 = 10 from rfl, show Int64.toInt32 100 = 100 from rfl, show Int64.toInt32 1000 = 1000 from rfl, show Int64.toInt32 10000 = 10000 from rfl, show Int64.toInt32 100000 = 100000 from rfl, show Int64.toInt32 1000000 = 1000000 from rfl, show Int64.toInt32 10000000 = 10000000 from rfl, show Int64.toInt32 100000000 = 100000000 from rfl, show Int64.toInt32 1000000000 = 1000000000 from rfl]
  show numr [(48 + d0), (48 + d1), (48 + d2), (48 + d3), (48 + d4), (48 + d5), u6, u7, u8, u9] (0 : Int32) (6 : Int32) 0 = _
  rw [numr_c, if_pos (by decide)]
  rw [numr_c, if_pos (by decide)]
  rw [numr_c, if_pos (by decide)]
  rw [numr_c, if_pos (by decide)]
  rw [numr_c, if_pos (by decide)]
  rw [numr_c, if_pos (by decide)]
  rw [numr_c, if_neg (by decide)]
  grind
theorem ne_0_7 (p0 : Int64) (u0 u1 u2 u3 u4 u5 u6 u7 u8 u9 : Int32) : num10 [((48 : Int32) + dgt p0 (0 : Int32)), ((48 : Int32) + dgt p0 (1 : Int32)), ((48 : Int32) + dgt p0 (2 : Int32)), ((48 : Int32) + dgt p0 (3 : Int32)), ((48 : Int32) + dgt p0 (4 : Int32)), ((48 : Int32) + dgt p0 (5 : Int32)), ((48 : Int32) + dgt p0 (6 : Int32)), u7, u8, u9] (0 : Int32) (7 : Int32) = ((((((((((tm p0 (0 : Int32) (0 : Int32) (7 : Int32)) + (tm p0 (1 : Int32) (0 : Int32) (7 : Int32))) + (tm p0 (2 : Int32) (0 : Int32) (7 : Int32))) + (tm p0 (3 : Int32) (0 : Int32) (7 : Int32))) + (tm p0 (4 : Int32) (0 : Int32) (7 : Int32))) + (tm p0 (5 : Int32) (0 : Int32) (7 : Int32))) + (tm p0 (6 : Int32) (0 : Int32) (7 : Int32))) + (tm p0 (7 : Int32) (0 : Int32) (7 : Int32))) + (tm p0 (8 : Int32) (0 : Int32) (7 : Int32))) + (tm p0 (9 : Int32) (0 : Int32) (7 : Int32))).toInt32 := by
  rw [show tm p0 (0 : Int32) (0 : Int32) (7 : Int32) = (dgt p0 (0 : Int32)).toInt64 * 1000000 from by unfold tm; rw [if_neg (by decide), if_pos (by decide)]; rfl]
  rw [show tm p0 (1 : Int32) (0 : Int32) (7 : Int32) = (dgt p0 (1 : Int32)).toInt64 * 100000 from by unfold tm; rw [if_neg (by decide), if_pos (by decide)]; rfl]
  rw [show tm p0 (2 : Int32) (0 : Int32) (7 : Int32) = (dgt p0 (2 : Int32)).toInt64 * 10000 from by unfold tm; rw [if_neg (by decide), if_pos (by decide)]; rfl]
  rw [show tm p0 (3 : Int32) (0 : Int32) (7 : Int32) = (dgt p0 (3 : Int32)).toInt64 * 1000 from by unfold tm; rw [if_neg (by decide), if_pos (by decide)]; rfl]
  rw [show tm p0 (4 : Int32) (0 : Int32) (7 : Int32) = (dgt p0 (4 : Int32)).toInt64 * 100 from by unfold tm; rw [if_neg (by decide), if_pos (by decide)]; rfl]
  rw [show tm p0 (5 : Int32) (0 : Int32) (7 : Int32) = (dgt p0 (5 : Int32)).toInt64 * 10 from by unfold tm; rw [if_neg (by decide), if_pos (by decide)]; rfl]
  rw [show tm p0 (6 : Int32) (0 : Int32) (7 : Int32) = (dgt p0 (6 : Int32)).toInt64 * 1 from by unfold tm; rw [if_neg (by decide), if_pos (by decide)]; rfl]
  rw [show tm p0 (7 : Int32) (0 : Int32) (7 : Int32) = (0 : Int64) from by unfold tm; rw [if_neg (by decide), if_neg (by decide)]]
  rw [show tm p0 (8 : Int32) (0 : Int32) (7 : Int32) = (0 : Int64) from by unfold tm; rw [if_neg (by decide), if_neg (by decide)]]
  rw [show tm p0 (9 : Int32) (0 : Int32) (7 : Int32) = (0 : Int64) from by unfold tm; rw [if_neg (by decide), if_neg (by decide)]]
  generalize dgt p0 (0 : Int32) = d0
  generalize dgt p0 (1 : Int32) = d1
  generalize dgt p0 (2 : Int32) = d2
  generalize dgt p0 (3 : Int32) = d3
  generalize dgt p0 (4 : Int32) = d4
  generalize dgt p0 (5 : Int32) = d5
  generalize dgt p0 (6 : Int32) = d6
  simp only [Int64.toInt32_add, Int64.toInt32_mul, Int32.toInt32_toInt64, show Int64.toInt32 0 = 0 from rfl, show Int64.toInt32 1 = 1 from rfl, show Int64.toInt32 10 = 10 from rfl, show Int64.toInt32 100 = 100 from rfl, show Int64.toInt32 1000 = 1000 from rfl, show Int64.toInt32 10000 = 10000 from rfl, show Int64.toInt32 100000 = 100000 from rfl, show Int64.toInt32 1000000 = 1000000 from rfl, show Int64.toInt32 10000000 = 10000000 from rfl, show Int64.toInt32 100000000 = 100000000 from rfl, show Int64.toInt32 1000000000 = 1000000000 from rfl]
  show numr [(48 + d0), (48 + d1), (48 + d2), (48 + d3), (48 + d4), (48 + d5), (48 + d6), u7, u8, u9] (0 : Int32) (7 : Int32) 0 = _
  rw [numr_c, if_pos (by decide)]
  rw [numr_c, if_pos (by decide)]
  rw [numr_c, if_pos (by decide)]
  rw [numr_c, if_pos (by decide)]
  rw [numr_c, if_pos (by decide)]
  rw [numr_c, if_pos (by decide)]
  rw [numr_c, if_pos (by decide)]
  rw [numr_c, if_neg (by decide)]
  grind
theorem ne_0_8 (p0 : Int64) (u0 u1 u2 u3 u4 u5 u6 u7 u8 u9 : Int32) : num10 [((48 : Int32) + dgt p0 (0 : Int32)), ((48 : Int32) + dgt p0 (1 : Int32)), ((48 : Int32) + dgt p0 (2 : Int32)), ((48 : Int32) + dgt p0 (3 : Int32)), ((48 : Int32) + dgt p0 (4 : Int32)), ((48 : Int32) + dgt p0 (5 : Int32)), ((48 : Int32) + dgt p0 (6 : Int32)), ((48 : Int32) + dgt p0 (7 : Int32)), u8, u9] (0 : Int32) (8 : Int32) = ((((((((((tm p0 (0 : Int32) (0 : Int32) (8 : Int32)) + (tm p0 (1 : Int32) (0 : Int32) (8 : Int32))) + (tm p0 (2 : Int32) (0 : Int32) (8 : Int32))) + (tm p0 (3 : Int32) (0 : Int32) (8 : Int32))) + (tm p0 (4 : Int32) (0 : Int32) (8 : Int32))) + (tm p0 (5 : Int32) (0 : Int32) (8 : Int32))) + (tm p0 (6 : Int32) (0 : Int32) (8 : Int32))) + (tm p0 (7 : Int32) (0 : Int32) (8 : Int32))) + (tm p0 (8 : Int32) (0 : Int32) (8 : Int32))) + (tm p0 (9 : Int32) (0 : Int32) (8 : Int32))).toInt32 := by
  rw [show tm p0 (0 : Int32) (0 : Int32) (8 : Int32) = (dgt p0 (0 : Int32)).toInt64 * 10000000 from by unfold tm; rw [if_neg (by decide), if_pos (by decide)]; rfl]
  rw [show tm p0 (1 : Int32) (0 : Int32) (8 : Int32) = (dgt p0 (1 : Int32)).toInt64 * 1000000 from by unfold tm; rw [if_neg (by decide), if_pos (by decide)]; rfl]
  rw [show tm p0 (2 : Int32) (0 : Int32) (8 : Int32) = (dgt p0 (2 : Int32)).toInt64 * 100000 from by unfold tm; rw [if_neg (by decide), if_pos (by decide)]; rfl]
  rw [show tm p0 (3 : Int32) (0 : Int32) (8 : Int32) = (dgt p0 (3 : Int32)).toInt64 * 10000 from by unfold tm; rw [if_neg (by decide), if_pos (by decide)]; rfl]
  rw [show tm p0 (4 : Int32) (0 : Int32) (8 : Int32) = (dgt p0 (4 : Int32)).toInt64 * 1000 from by unfold tm; rw [if_neg (by decide), if_pos (by decide)]; rfl]
  rw [show tm p0 (5 : Int32) (0 : Int32) (8 : Int32) = (dgt p0 (5 : Int32)).toInt64 * 100 from by unfold tm; rw [if_neg (by decide), if_pos (by decide)]; rfl]
  rw [show tm p0 (6 : Int32) (0 : Int32) (8 : Int32) = (dgt p0 (6 : Int32)).toInt64 * 10 from by unfold tm; rw [if_neg (by decide), if_pos (by decide)]; rfl]
  rw [show tm p0 (7 : Int32) (0 : Int32) (8 : Int32) = (dgt p0 (7 : Int32)).toInt64 * 1 from by unfold tm; rw [if_neg (by decide), if_pos (by decide)]; rfl]
  rw [show tm p0 (8 : Int32) (0 : Int32) (8 : Int32) = (0 : Int64) from by unfold tm; rw [if_neg (by decide), if_neg (by decide)]]
  rw [show tm p0 (9 : Int32) (0 : Int32) (8 : Int32) = (0 : Int64) from by unfold tm; rw [if_neg (by decide), if_neg (by decide)]]
  generalize dgt p0 (0 : Int32) = d0
  generalize dgt p0 (1 : Int32) = d1
  generalize dgt p0 (2 : Int32) = d2
  generalize dgt p0 (3 : Int32) = d3
  generalize dgt p0 (4 : Int32) = d4
  generalize dgt p0 (5 : Int32) = d5
  generalize dgt p0 (6 : Int32) = d6
  generalize dgt p0 (7 : Int32) = d7
  simp only [Int64.toInt32_add, Int64.toInt32_mul, Int32.toInt32_toInt64, show Int64.toInt32 0 = 0 from rfl, show Int64.toInt32 1 = 1 from rfl, show Int64.toInt32 10 = 10 from rfl, show Int64.toInt32 100 = 100 from rfl, show Int64.toInt32 1000 = 1000 from rfl, show Int64.toInt32 10000 = 10000 from rfl, show Int64.toInt32 100000 = 100000 from rfl, show Int64.toInt32 1000000 = 1000000 from rfl, show Int64.toInt32 10000000 = 10000000 from rfl, show Int64.toInt32 100000000 = 100000000 from rfl, show Int64.toInt32 1000000000 = 1000000000 from rfl]
  show numr [(48 + d0), (48 + d1), (48 + d2), (48 + d3), (48 + d4), (48 + d5), (48 + d6), (48 + d7), u8, u9] (0 : Int32) (8 : Int32) 0 = _
  rw [numr_c, if_pos (by decide)]
  rw [numr_c, if_pos (by decide)]
  rw [numr_c, if_pos (by decide)]
  rw [numr_c, if_pos (by decide)]
  rw [numr_c, if_pos (by decide)]
  rw [numr_c, if_pos (by decide)]
  rw [numr_c, if_pos (by decide)]
  rw [numr_c, if_pos (by decide)]
  rw [numr_c, if_neg (by decide)]
  grind
theorem ne_0_9 (p0 : Int64) (u0 u1 u2 u3 u4 u5 u6 u7 u8 u9 : Int32) : num10 [((48 : Int32) + dgt p0 (0 : Int32)), ((48 : Int32) + dgt p0 (1 : Int32)), ((48 : Int32) + dgt p0 (2 : Int32)), ((48 : Int32) + dgt p0 (3 : Int32)), ((48 : Int32) + dgt p0 (4 : Int32)), ((48 : Int32) + dgt p0 (5 : Int32)), ((48 : Int32) + dgt p0 (6 : Int32)), ((48 : Int32) + dgt p0 (7 : Int32)), ((48 : Int32) + dgt p0 (8 : Int32)), u9] (0 : Int32) (9 : Int32) = ((((((((((tm p0 (0 : Int32) (0 : Int32) (9 : Int32)) + (tm p0 (1 : Int32) (0 : Int32) (9 : Int32))) + (tm p0 (2 : Int32) (0 : Int32) (9 : Int32))) + (tm p0 (3 : Int32) (0 : Int32) (9 : Int32))) + (tm p0 (4 : Int32) (0 : Int32) (9 : Int32))) + (tm p0 (5 : Int32) (0 : Int32) (9 : Int32))) + (tm p0 (6 : Int32) (0 : Int32) (9 : Int32))) + (tm p0 (7 : Int32) (0 : Int32) (9 : Int32))) + (tm p0 (8 : Int32) (0 : Int32) (9 : Int32))) + (tm p0 (9 : Int32) (0 : Int32) (9 : Int32))).toInt32 := by
  rw [show tm p0 (0 : Int32) (0 : Int32) (9 : Int32) = (dgt p0 (0 : Int32)).toInt64 * 100000000 from by unfold tm; rw [if_neg (by decide), if_pos (by decide)]; rfl]
  rw [show tm p0 (1 : Int32) (0 : Int32) (9 : Int32) = (dgt p0 (1 : Int32)).toInt64 * 10000000 from by unfold tm; rw [if_neg (by decide), if_pos (by decide)]; rfl]
  rw [show tm p0 (2 : Int32) (0 : Int32) (9 : Int32) = (dgt p0 (2 : Int32)).toInt64 * 1000000 from by unfold tm; rw [if_neg (by decide), if_pos (by decide)]; rfl]
  rw [show tm p0 (3 : Int32) (0 : Int32) (9 : Int32) = (dgt p0 (3 : Int32)).toInt64 * 100000 from by unfold tm; rw [if_neg (by decide), if_pos (by decide)]; rfl]
  rw [show tm p0 (4 : Int32) (0 : Int32) (9 : Int32) = (dgt p0 (4 : Int32)).toInt64 * 10000 from by unfold tm; rw [if_neg (by decide), if_pos (by decide)]; rfl]
  rw [show tm p0 (5 : Int32) (0 : Int32) (9 : Int32) = (dgt p0 (5 : Int32)).toInt64 * 1000 from by unfold tm; rw [if_neg (by decide), if_pos (by decide)]; rfl]
  rw [show tm p0 (6 : Int32) (0 : Int32) (9 : Int32) = (dgt p0 (6 : Int32)).toInt64 * 100 from by unfold tm; rw [if_neg (by decide), if_pos (by decide)]; rfl]
  rw [show tm p0 (7 : Int32) (0 : Int32) (9 : Int32) = (dgt p0 (7 : Int32)).toInt64 * 10 from by unfold tm; rw [if_neg (by decide), if_pos (by decide)]; rfl]
  rw [show tm p0 (8 : Int32) (0 : Int32) (9 : Int32) = (dgt p0 (8 : Int32)).toInt64 * 1 from by unfold tm; rw [if_neg (by decide), if_pos (by decide)]; rfl]
  rw [show tm p0 (9 : Int32) (0 : Int32) (9 : Int32) = (0 : Int64) from by unfold tm; rw [if_neg (by decide), if_neg (by decide)]]
  generalize dgt p0 (0 : Int32) = d0
  generalize dgt p0 (1 : Int32) = d1
  generalize dgt p0 (2 : Int32) = d2
  generalize dgt p0 (3 : Int32) = d3
  generalize dgt p0 (4 : Int32) = d4
  generalize dgt p0 (5 : Int32) = d5
  generalize dgt p0 (6 : Int32) = d6
  generalize dgt p0 (7 : Int32) = d7
  generalize dgt p0 (8 : Int32) = d8
  simp only [Int64.toInt32_add, Int64.toInt32_mul, Int32.toInt32_toInt64, show Int64.toInt32 0 = 0 from rfl, show Int64.toInt32 1 = 1 from rfl, show Int64.toInt32 10 = 10 from rfl, show Int64.toInt32 100 = 100 from rfl, show Int64.toInt32 1000 = 1000 from rfl, show Int64.toInt32 10000 = 10000 from rfl, show Int64.toInt32 100000 = 100000 from rfl, show Int64.toInt32 1000000 = 1000000 from rfl, show Int64.toInt32 10000000 = 10000000 from rfl, show Int64.toInt32 100000000 = 100000000 from rfl, show Int64.toInt32 1000000000 = 1000000000 from rfl]
  show numr [(48 + d0), (48 + d1), (48 + d2), (48 + d3), (48 + d4), (48 + d5), (48 + d6), (48 + d7), (48 + d8), u9] (0 : Int32) (9 : Int32) 0 = _
  rw [numr_c, if_pos (by decide)]
  rw [numr_c, if_pos (by decide)]
  rw [numr_c, if_pos (by decide)]
  rw [numr_c, if_pos (by decide)]
  rw [numr_c, if_pos (by decide)]
  rw [numr_c, if_pos (by decide)]
  rw [numr_c, if_pos (by decide)]
  rw [numr_c, if_pos (by decide)]
  rw [numr_c, if_pos (by decide)]
  rw [numr_c, if_neg (by decide)]
  grind
theorem ne_0_10 (p0 : Int64) (u0 u1 u2 u3 u4 u5 u6 u7 u8 u9 : Int32) : num10 [((48 : Int32) + dgt p0 (0 : Int32)), ((48 : Int32) + dgt p0 (1 : Int32)), ((48 : Int32) + dgt p0 (2 : Int32)), ((48 : Int32) + dgt p0 (3 : Int32)), ((48 : Int32) + dgt p0 (4 : Int32)), ((48 : Int32) + dgt p0 (5 : Int32)), ((48 : Int32) + dgt p0 (6 : Int32)), ((48 : Int32) + dgt p0 (7 : Int32)), ((48 : Int32) + dgt p0 (8 : Int32)), ((48 : Int32) + dgt p0 (9 : Int32))] (0 : Int32) (10 : Int32) = ((((((((((tm p0 (0 : Int32) (0 : Int32) (10 : Int32)) + (tm p0 (1 : Int32) (0 : Int32) (10 : Int32))) + (tm p0 (2 : Int32) (0 : Int32) (10 : Int32))) + (tm p0 (3 : Int32) (0 : Int32) (10 : Int32))) + (tm p0 (4 : Int32) (0 : Int32) (10 : Int32))) + (tm p0 (5 : Int32) (0 : Int32) (10 : Int32))) + (tm p0 (6 : Int32) (0 : Int32) (10 : Int32))) + (tm p0 (7 : Int32) (0 : Int32) (10 : Int32))) + (tm p0 (8 : Int32) (0 : Int32) (10 : Int32))) + (tm p0 (9 : Int32) (0 : Int32) (10 : Int32))).toInt32 := by
  rw [show tm p0 (0 : Int32) (0 : Int32) (10 : Int32) = (dgt p0 (0 : Int32)).toInt64 * 1000000000 from by unfold tm; rw [if_neg (by decide), if_pos (by decide)]; rfl]
  rw [show tm p0 (1 : Int32) (0 : Int32) (10 : Int32) = (dgt p0 (1 : Int32)).toInt64 * 100000000 from by unfold tm; rw [if_neg (by decide), if_pos (by decide)]; rfl]
  rw [show tm p0 (2 : Int32) (0 : Int32) (10 : Int32) = (dgt p0 (2 : Int32)).toInt64 * 10000000 from by unfold tm; rw [if_neg (by decide), if_pos (by decide)]; rfl]
  rw [show tm p0 (3 : Int32) (0 : Int32) (10 : Int32) = (dgt p0 (3 : Int32)).toInt64 * 1000000 from by unfold tm; rw [if_neg (by decide), if_pos (by decide)]; rfl]
  rw [show tm p0 (4 : Int32) (0 : Int32) (10 : Int32) = (dgt p0 (4 : Int32)).toInt64 * 100000 from by unfold tm; rw [if_neg (by decide), if_pos (by decide)]; rfl]
  rw [show tm p0 (5 : Int32) (0 : Int32) (10 : Int32) = (dgt p0 (5 : Int32)).toInt64 * 10000 from by unfold tm; rw [if_neg (by decide), if_pos (by decide)]; rfl]
  rw [show tm p0 (6 : Int32) (0 : Int32) (10 : Int32) = (dgt p0 (6 : Int32)).toInt64 * 1000 from by unfold tm; rw [if_neg (by decide), if_pos (by decide)]; rfl]
  rw [show tm p0 (7 : Int32) (0 : Int32) (10 : Int32) = (dgt p0 (7 : Int32)).toInt64 * 100 from by unfold tm; rw [if_neg (by decide), if_pos (by decide)]; rfl]
  rw [show tm p0 (8 : Int32) (0 : Int32) (10 : Int32) = (dgt p0 (8 : Int32)).toInt64 * 10 from by unfold tm; rw [if_neg (by decide), if_pos (by decide)]; rfl]
  rw [show tm p0 (9 : Int32) (0 : Int32) (10 : Int32) = (dgt p0 (9 : Int32)).toInt64 * 1 from by unfold tm; rw [if_neg (by decide), if_pos (by decide)]; rfl]
  generalize dgt p0 (0 : Int32) = d0
  generalize dgt p0 (1 : Int32) = d1
  generalize dgt p0 (2 : Int32) = d2
  generalize dgt p0 (3 : Int32) = d3
  generalize dgt p0 (4 : Int32) = d4
  generalize dgt p0 (5 : Int32) = d5
  generalize dgt p0 (6 : Int32) = d6
  generalize dgt p0 (7 : Int32) = d7
  generalize dgt p0 (8 : Int32) = d8
  generalize dgt p0 (9 : Int32) = d9
  simp only [Int64.toInt32_add, Int64.toInt32_mul, Int32.toInt32_toInt64, show Int64.toInt32 0 = 0 from rfl, show Int64.toInt32 1 = 1 from rfl, show Int64.toInt32 10 = 10 from rfl, show Int64.toInt32 100 = 100 from rfl, show Int64.toInt32 1000 = 1000 from rfl, show Int64.toInt32 10000 = 10000 from rfl, show Int64.toInt32 100000 = 100000 from rfl, show Int64.toInt32 1000000 = 1000000 from rfl, show Int64.toInt32 10000000 = 10000000 from rfl, show Int64.toInt32 100000000 = 100000000 from rfl, show Int64.toInt32 1000000000 = 1000000000 from rfl]
  show numr [(48 + d0), (48 + d1), (48 + d2), (48 + d3), (48 + d4), (48 + d5), (48 + d6), (48 + d7), (48 + d8), (48 + d9)] (0 : Int32) (10 : Int32) 0 = _
  rw [numr_c, if_pos (by decide)]
  rw [numr_c, if_pos (by decide)]
  rw [numr_c, if_pos (by decide)]
  rw [numr_c, if_pos (by decide)]
  rw [numr_c, if_pos (by decide)]
  rw [numr_c, if_pos (by decide)]
  rw [numr_c, if_pos (by decide)]
  rw [numr_c, if_pos (by decide)]
  rw [numr_c, if_pos (by decide)]
  rw [numr_c, if_pos (by decide)]
  unfold numr
  grind

theorem ne_1_1 (p0 : Int64) (u0 u1 u2 u3 u4 u5 u6 u7 u8 u9 : Int32) : num10 [u0, u1, u2, u3, u4, u5, u6, u7, u8, u9] (1 : Int32) (1 : Int32) = ((((((((((tm p0 (0 : Int32) (1 : Int32) (1 : Int32)) + (tm p0 (1 : Int32) (1 : Int32) (1 : Int32))) + (tm p0 (2 : Int32) (1 : Int32) (1 : Int32))) + (tm p0 (3 : Int32) (1 : Int32) (1 : Int32))) + (tm p0 (4 : Int32) (1 : Int32) (1 : Int32))) + (tm p0 (5 : Int32) (1 : Int32) (1 : Int32))) + (tm p0 (6 : Int32) (1 : Int32) (1 : Int32))) + (tm p0 (7 : Int32) (1 : Int32) (1 : Int32))) + (tm p0 (8 : Int32) (1 : Int32) (1 : Int32))) + (tm p0 (9 : Int32) (1 : Int32) (1 : Int32))).toInt32 := by
  rw [show tm p0 (0 : Int32) (1 : Int32) (1 : Int32) = (0 : Int64) from if_pos (by decide)]
  rw [show tm p0 (1 : Int32) (1 : Int32) (1 : Int32) = (0 : Int64) from by unfold tm; rw [if_neg (by decide), if_neg (by decide)]]
  rw [show tm p0 (2 : Int32) (1 : Int32) (1 : Int32) = (0 : Int64) from by unfold tm; rw [if_neg (by decide), if_neg (by decide)]]
  rw [show tm p0 (3 : Int32) (1 : Int32) (1 : Int32) = (0 : Int64) from by unfold tm; rw [if_neg (by decide), if_neg (by decide)]]
  rw [show tm p0 (4 : Int32) (1 : Int32) (1 : Int32) = (0 : Int64) from by unfold tm; rw [if_neg (by decide), if_neg (by decide)]]
  rw [show tm p0 (5 : Int32) (1 : Int32) (1 : Int32) = (0 : Int64) from by unfold tm; rw [if_neg (by decide), if_neg (by decide)]]
  rw [show tm p0 (6 : Int32) (1 : Int32) (1 : Int32) = (0 : Int64) from by unfold tm; rw [if_neg (by decide), if_neg (by decide)]]
  rw [show tm p0 (7 : Int32) (1 : Int32) (1 : Int32) = (0 : Int64) from by unfold tm; rw [if_neg (by decide), if_neg (by decide)]]
  rw [show tm p0 (8 : Int32) (1 : Int32) (1 : Int32) = (0 : Int64) from by unfold tm; rw [if_neg (by decide), if_neg (by decide)]]
  rw [show tm p0 (9 : Int32) (1 : Int32) (1 : Int32) = (0 : Int64) from by unfold tm; rw [if_neg (by decide), if_neg (by decide)]]
  simp only [Int64.toInt32_add, Int64.toInt32_mul, Int32.toInt32_toInt64, show Int64.toInt32 0 = 0 from rfl, show Int64.toInt32 1 = 1 from rfl, show Int64.toInt32 10 = 10 from rfl, show Int64.toInt32 100 = 100 from rfl, show Int64.toInt32 1000 = 1000 from rfl, show Int64.toInt32 10000 = 10000 from rfl, show Int64.toInt32 100000 = 100000 from rfl, show Int64.toInt32 1000000 = 1000000 from rfl, show Int64.toInt32 10000000 = 10000000 from rfl, show Int64.toInt32 100000000 = 100000000 from rfl, show Int64.toInt32 1000000000 = 1000000000 from rfl]
  show numr [u1, u2, u3, u4, u5, u6, u7, u8, u9] (1 : Int32) (1 : Int32) 0 = _
  rw [numr_c, if_neg (by decide)]
  grind
theorem ne_1_2 (p0 : Int64) (u0 u1 u2 u3 u4 u5 u6 u7 u8 u9 : Int32) : num10 [u0, ((48 : Int32) + dgt p0 (1 : Int32)), u2, u3, u4, u5, u6, u7, u8, u9] (1 : Int32) (2 : Int32) = ((((((((((tm p0 (0 : Int32) (1 : Int32) (2 : Int32)) + (tm p0 (1 : Int32) (1 : Int32) (2 : Int32))) + (tm p0 (2 : Int32) (1 : Int32) (2 : Int32))) + (tm p0 (3 : Int32) (1 : Int32) (2 : Int32))) + (tm p0 (4 : Int32) (1 : Int32) (2 : Int32))) + (tm p0 (5 : Int32) (1 : Int32) (2 : Int32))) + (tm p0 (6 : Int32) (1 : Int32) (2 : Int32))) + (tm p0 (7 : Int32) (1 : Int32) (2 : Int32))) + (tm p0 (8 : Int32) (1 : Int32) (2 : Int32))) + (tm p0 (9 : Int32) (1 : Int32) (2 : Int32))).toInt32 := by
  rw [show tm p0 (0 : Int32) (1 : Int32) (2 : Int32) = (0 : Int64) from if_pos (by decide)]
  rw [show tm p0 (1 : Int32) (1 : Int32) (2 : Int32) = (dgt p0 (1 : Int32)).toInt64 * 1 from by unfold tm; rw [if_neg (by decide), if_pos (by decide)]; rfl]
  rw [show tm p0 (2 : Int32) (1 : Int32) (2 : Int32) = (0 : Int64) from by unfold tm; rw [if_neg (by decide), if_neg (by decide)]]
  rw [show tm p0 (3 : Int32) (1 : Int32) (2 : Int32) = (0 : Int64) from by unfold tm; rw [if_neg (by decide), if_neg (by decide)]]
  rw [show tm p0 (4 : Int32) (1 : Int32) (2 : Int32) = (0 : Int64) from by unfold tm; rw [if_neg (by decide), if_neg (by decide)]]
  rw [show tm p0 (5 : Int32) (1 : Int32) (2 : Int32) = (0 : Int64) from by unfold tm; rw [if_neg (by decide), if_neg (by decide)]]
  rw [show tm p0 (6 : Int32) (1 : Int32) (2 : Int32) = (0 : Int64) from by unfold tm; rw [if_neg (by decide), if_neg (by decide)]]
  rw [show tm p0 (7 : Int32) (1 : Int32) (2 : Int32) = (0 : Int64) from by unfold tm; rw [if_neg (by decide), if_neg (by decide)]]
  rw [show tm p0 (8 : Int32) (1 : Int32) (2 : Int32) = (0 : Int64) from by unfold tm; rw [if_neg (by decide), if_neg (by decide)]]
  rw [show tm p0 (9 : Int32) (1 : Int32) (2 : Int32) = (0 : Int64) from by unfold tm; rw [if_neg (by decide), if_neg (by decide)]]
  generalize dgt p0 (1 : Int32) = d1
  simp only [Int64.toInt32_add, Int64.toInt32_mul, Int32.toInt32_toInt64, show Int64.toInt32 0 = 0 from rfl, show Int64.toInt32 1 = 1 from rfl, show Int64.toInt32 10 = 10 from rfl, show Int64.toInt32 100 = 100 from rfl, show Int64.toInt32 1000 = 1000 from rfl, show Int64.toInt32 10000 = 10000 from rfl, show Int64.toInt32 100000 = 100000 from rfl, show Int64.toInt32 1000000 = 1000000 from rfl, show Int64.toInt32 10000000 = 10000000 from rfl, show Int64.toInt32 100000000 = 100000000 from rfl, show Int64.toInt32 1000000000 = 1000000000 from rfl]
  show numr [(48 + d1), u2, u3, u4, u5, u6, u7, u8, u9] (1 : Int32) (2 : Int32) 0 = _
  rw [numr_c, if_pos (by decide)]
  rw [numr_c, if_neg (by decide)]
  grind
theorem ne_1_3 (p0 : Int64) (u0 u1 u2 u3 u4 u5 u6 u7 u8 u9 : Int32) : num10 [u0, ((48 : Int32) + dgt p0 (1 : Int32)), ((48 : Int32) + dgt p0 (2 : Int32)), u3, u4, u5, u6, u7, u8, u9] (1 : Int32) (3 : Int32) = ((((((((((tm p0 (0 : Int32) (1 : Int32) (3 : Int32)) + (tm p0 (1 : Int32) (1 : Int32) (3 : Int32))) + (tm p0 (2 : Int32) (1 : Int32) (3 : Int32))) + (tm p0 (3 : Int32) (1 : Int32) (3 : Int32))) + (tm p0 (4 : Int32) (1 : Int32) (3 : Int32))) + (tm p0 (5 : Int32) (1 : Int32) (3 : Int32))) + (tm p0 (6 : Int32) (1 : Int32) (3 : Int32))) + (tm p0 (7 : Int32) (1 : Int32) (3 : Int32))) + (tm p0 (8 : Int32) (1 : Int32) (3 : Int32))) + (tm p0 (9 : Int32) (1 : Int32) (3 : Int32))).toInt32 := by
  rw [show tm p0 (0 : Int32) (1 : Int32) (3 : Int32) = (0 : Int64) from if_pos (by decide)]
  rw [show tm p0 (1 : Int32) (1 : Int32) (3 : Int32) = (dgt p0 (1 : Int32)).toInt64 * 10 from by unfold tm; rw [if_neg (by decide), if_pos (by decide)]; rfl]
  rw [show tm p0 (2 : Int32) (1 : Int32) (3 : Int32) = (dgt p0 (2 : Int32)).toInt64 * 1 from by unfold tm; rw [if_neg (by decide), if_pos (by decide)]; rfl]
  rw [show tm p0 (3 : Int32) (1 : Int32) (3 : Int32) = (0 : Int64) from by unfold tm; rw [if_neg (by decide), if_neg (by decide)]]
  rw [show tm p0 (4 : Int32) (1 : Int32) (3 : Int32) = (0 : Int64) from by unfold tm; rw [if_neg (by decide), if_neg (by decide)]]
  rw [show tm p0 (5 : Int32) (1 : Int32) (3 : Int32) = (0 : Int64) from by unfold tm; rw [if_neg (by decide), if_neg (by decide)]]
  rw [show tm p0 (6 : Int32) (1 : Int32) (3 : Int32) = (0 : Int64) from by unfold tm; rw [if_neg (by decide), if_neg (by decide)]]
  rw [show tm p0 (7 : Int32) (1 : Int32) (3 : Int32) = (0 : Int64) from by unfold tm; rw [if_neg (by decide), if_neg (by decide)]]
  rw [show tm p0 (8 : Int32) (1 : Int32) (3 : Int32) = (0 : Int64) from by unfold tm; rw [if_neg (by decide), if_neg (by decide)]]
  rw [show tm p0 (9 : Int32) (1 : Int32) (3 : Int32) = (0 : Int64) from by unfold tm; rw [if_neg (by decide), if_neg (by decide)]]
  generalize dgt p0 (1 : Int32) = d1
  generalize dgt p0 (2 : Int32) = d2
  simp only [Int64.toInt32_add, Int64.toInt32_mul, Int32.toInt32_toInt64, show Int64.toInt32 0 = 0 from rfl, show Int64.toInt32 1 = 1 from rfl, show Int64.toInt32 10 = 10 from rfl, show Int64.toInt32 100 = 100 from rfl, show Int64.toInt32 1000 = 1000 from rfl, show Int64.toInt32 10000 = 10000 from rfl, show Int64.toInt32 100000 = 100000 from rfl, show Int64.toInt32 1000000 = 1000000 from rfl, show Int64.toInt32 10000000 = 10000000 from rfl, show Int64.toInt32 100000000 = 100000000 from rfl, show Int64.toInt32 1000000000 = 1000000000 from rfl]
  show numr [(48 + d1), (48 + d2), u3, u4, u5, u6, u7, u8, u9] (1 : Int32) (3 : Int32) 0 = _
  rw [numr_c, if_pos (by decide)]
  rw [numr_c, if_pos (by decide)]
  rw [numr_c, if_neg (by decide)]
  grind
theorem ne_1_4 (p0 : Int64) (u0 u1 u2 u3 u4 u5 u6 u7 u8 u9 : Int32) : num10 [u0, ((48 : Int32) + dgt p0 (1 : Int32)), ((48 : Int32) + dgt p0 (2 : Int32)), ((48 : Int32) + dgt p0 (3 : Int32)), u4, u5, u6, u7, u8, u9] (1 : Int32) (4 : Int32) = ((((((((((tm p0 (0 : Int32) (1 : Int32) (4 : Int32)) + (tm p0 (1 : Int32) (1 : Int32) (4 : Int32))) + (tm p0 (2 : Int32) (1 : Int32) (4 : Int32))) + (tm p0 (3 : Int32) (1 : Int32) (4 : Int32))) + (tm p0 (4 : Int32) (1 : Int32) (4 : Int32))) + (tm p0 (5 : Int32) (1 : Int32) (4 : Int32))) + (tm p0 (6 : Int32) (1 : Int32) (4 : Int32))) + (tm p0 (7 : Int32) (1 : Int32) (4 : Int32))) + (tm p0 (8 : Int32) (1 : Int32) (4 : Int32))) + (tm p0 (9 : Int32) (1 : Int32) (4 : Int32))).toInt32 := by
  rw [show tm p0 (0 : Int32) (1 : Int32) (4 : Int32) = (0 : Int64) from if_pos (by decide)]
  rw [show tm p0 (1 : Int32) (1 : Int32) (4 : Int32) = (dgt p0 (1 : Int32)).toInt64 * 100 from by unfold tm; rw [if_neg (by decide), if_pos (by decide)]; rfl]
  rw [show tm p0 (2 : Int32) (1 : Int32) (4 : Int32) = (dgt p0 (2 : Int32)).toInt64 * 10 from by unfold tm; rw [if_neg (by decide), if_pos (by decide)]; rfl]
  rw [show tm p0 (3 : Int32) (1 : Int32) (4 : Int32) = (dgt p0 (3 : Int32)).toInt64 * 1 from by unfold tm; rw [if_neg (by decide), if_pos (by decide)]; rfl]
  rw [show tm p0 (4 : Int32) (1 : Int32) (4 : Int32) = (0 : Int64) from by unfold tm; rw [if_neg (by decide), if_neg (by decide)]]
  rw [show tm p0 (5 : Int32) (1 : Int32) (4 : Int32) = (0 : Int64) from by unfold tm; rw [if_neg (by decide), if_neg (by decide)]]
  rw [show tm p0 (6 : Int32) (1 : Int32) (4 : Int32) = (0 : Int64) from by unfold tm; rw [if_neg (by decide), if_neg (by decide)]]
  rw [show tm p0 (7 : Int32) (1 : Int32) (4 : Int32) = (0 : Int64) from by unfold tm; rw [if_neg (by decide), if_neg (by decide)]]
  rw [show tm p0 (8 : Int32) (1 : Int32) (4 : Int32) = (0 : Int64) from by unfold tm; rw [if_neg (by decide), if_neg (by decide)]]
  rw [show tm p0 (9 : Int32) (1 : Int32) (4 : Int32) = (0 : Int64) from by unfold tm; rw [if_neg (by decide), if_neg (by decide)]]
  generalize dgt p0 (1 : Int32) = d1
  generalize dgt p0 (2 : Int32) = d2
  generalize dgt p0 (3 : Int32) = d3
  simp only [Int64.toInt32_add, Int64.toInt32_mul, Int32.toInt32_toInt64, show Int64.toInt32 0 = 0 from rfl, show Int64.toInt32 1 = 1 from rfl, show Int64.toInt32 10 = 10 from rfl, show Int64.toInt32 100 = 100 from rfl, show Int64.toInt32 1000 = 1000 from rfl, show Int64.toInt32 10000 = 10000 from rfl, show Int64.toInt32 100000 = 100000 from rfl, show Int64.toInt32 1000000 = 1000000 from rfl, show Int64.toInt32 10000000 = 10000000 from rfl, show Int64.toInt32 100000000 = 100000000 from rfl, show Int64.toInt32 1000000000 = 1000000000 from rfl]
  show numr [(48 + d1), (48 + d2), (48 + d3), u4, u5, u6, u7, u8, u9] (1 : Int32) (4 : Int32) 0 = _
  rw [numr_c, if_pos (by decide)]
  rw [numr_c, if_pos (by decide)]
  rw [numr_c, if_pos (by decide)]
  rw [numr_c, if_neg (by decide)]
  grind
theorem ne_1_5 (p0 : Int64) (u0 u1 u2 u3 u4 u5 u6 u7 u8 u9 : Int32) : num10 [u0, ((48 : Int32) + dgt p0 (1 : Int32)), ((48 : Int32) + dgt p0 (2 : Int32)), ((48 : Int32) + dgt p0 (3 : Int32)), ((48 : Int32) + dgt p0 (4 : Int32)), u5, u6, u7, u8, u9] (1 : Int32) (5 : Int32) = ((((((((((tm p0 (0 : Int32) (1 : Int32) (5 : Int32)) + (tm p0 (1 : Int32) (1 : Int32) (5 : Int32))) + (tm p0 (2 : Int32) (1 : Int32) (5 : Int32))) + (tm p0 (3 : Int32) (1 : Int32) (5 : Int32))) + (tm p0 (4 : Int32) (1 : Int32) (5 : Int32))) + (tm p0 (5 : Int32) (1 : Int32) (5 : Int32))) + (tm p0 (6 : Int32) (1 : Int32) (5 : Int32))) + (tm p0 (7 : Int32) (1 : Int32) (5 : Int32))) + (tm p0 (8 : Int32) (1 : Int32) (5 : Int32))) + (tm p0 (9 : Int32) (1 : Int32) (5 : Int32))).toInt32 := by
  rw [show tm p0 (0 : Int32) (1 : Int32) (5 : Int32) = (0 : Int64) from if_pos (by decide)]
  rw [show tm p0 (1 : Int32) (1 : Int32) (5 : Int32) = (dgt p0 (1 : Int32)).toInt64 * 1000 from by unfold tm; rw [if_neg (by decide), if_pos (by decide)]; rfl]
  rw [show tm p0 (2 : Int32) (1 : Int32) (5 : Int32) = (dgt p0 (2 : Int32)).toInt64 * 100 from by unfold tm; rw [if_neg (by decide), if_pos (by decide)]; rfl]
  rw [show tm p0 (3 : Int32) (1 : Int32) (5 : Int32) = (dgt p0 (3 : Int32)).toInt64 * 10 from by unfold tm; rw [if_neg (by decide), if_pos (by decide)]; rfl]
  rw [show tm p0 (4 : Int32) (1 : Int32) (5 : Int32) = (dgt p0 (4 : Int32)).toInt64 * 1 from by unfold tm; rw [if_neg (by decide), if_pos (by decide)]; rfl]
  rw [show tm p0 (5 : Int32) (1 : Int32) (5 : Int32) = (0 : Int64) from by unfold tm; rw [if_neg (by decide), if_neg (by decide)]]
  rw [show tm p0 (6 : Int32) (1 : Int32) (5 : Int32) = (0 : Int64) from by unfold tm; rw [if_neg (by decide), if_neg (by decide)]]
  rw [show tm p0 (7 : Int32) (1 : Int32) (5 : Int32) = (0 : Int64) from by unfold tm; rw [if_neg (by decide), if_neg (by decide)]]
  rw [show tm p0 (8 : Int32) (1 : Int32) (5 : Int32) = (0 : Int64) from by unfold tm; rw [if_neg (by decide), if_neg (by decide)]]
  rw [show tm p0 (9 : Int32) (1 : Int32) (5 : Int32) = (0 : Int64) from by unfold tm; rw [if_neg (by decide), if_neg (by decide)]]
  generalize dgt p0 (1 : Int32) = d1
  generalize dgt p0 (2 : Int32) = d2
  generalize dgt p0 (3 : Int32) = d3
  generalize dgt p0 (4 : Int32) = d4
  simp only [Int64.toInt32_add, Int64.toInt32_mul, Int32.toInt32_toInt64, show Int64.toInt32 0 = 0 from rfl, show Int64.toInt32 1 = 1 from rfl, show Int64.toInt32 10 = 10 from rfl, show Int64.toInt32 100 = 100 from rfl, show Int64.toInt32 1000 = 1000 from rfl, show Int64.toInt32 10000 = 10000 from rfl, show Int64.toInt32 100000 = 100000 from rfl, show Int64.toInt32 1000000 = 1000000 from rfl, show Int64.toInt32 10000000 = 10000000 from rfl, show Int64.toInt32 100000000 = 100000000 from rfl, show Int64.toInt32 1000000000 = 1000000000 from rfl]
  show numr [(48 + d1), (48 + d2), (48 + d3), (48 + d4), u5, u6, u7, u8, u9] (1 : Int32) (5 : Int32) 0 = _
  rw [numr_c, if_pos (by decide)]
  rw [numr_c, if_pos (by decide)]
  rw [numr_c, if_pos (by decide)]
  rw [numr_c, if_pos (by decide)]
  rw [numr_c, if_neg (by decide)]
  grind
theorem ne_1_6 (p0 : Int64) (u0 u1 u2 u3 u4 u5 u6 u7 u8 u9 : Int32) : num10 [u0, ((48 : Int32) + dgt p0 (1 : Int32)), ((48 : Int32) + dgt p0 (2 : Int32)), ((48 : Int32) + dgt p0 (3 : Int32)), ((48 : Int32) + dgt p0 (4 : Int32)), ((48 : Int32) + dgt p0 (5 : Int32)), u6, u7, u8, u9] (1 : Int32) (6 : Int32) = ((((((((((tm p0 (0 : Int32) (1 : Int32) (6 : Int32)) + (tm p0 (1 : Int32) (1 : Int32) (6 : Int32))) + (tm p0 (2 : Int32) (1 : Int32) (6 : Int32))) + (tm p0 (3 : Int32) (1 : Int32) (6 : Int32))) + (tm p0 (4 : Int32) (1 : Int32) (6 : Int32))) + (tm p0 (5 : Int32) (1 : Int32) (6 : Int32))) + (tm p0 (6 : Int32) (1 : Int32) (6 : Int32))) + (tm p0 (7 : Int32) (1 : Int32) (6 : Int32))) + (tm p0 (8 : Int32) (1 : Int32) (6 : Int32))) + (tm p0 (9 : Int32) (1 : Int32) (6 : Int32))).toInt32 := by
  rw [show tm p0 (0 : Int32) (1 : Int32) (6 : Int32) = (0 : Int64) from if_pos (by decide)]
  rw [show tm p0 (1 : Int32) (1 : Int32) (6 : Int32) = (dgt p0 (1 : Int32)).toInt64 * 10000 from by unfold tm; rw [if_neg (by decide), if_pos (by decide)]; rfl]
  rw [show tm p0 (2 : Int32) (1 : Int32) (6 : Int32) = (dgt p0 (2 : Int32)).toInt64 * 1000 from by unfold tm; rw [if_neg (by decide), if_pos (by decide)]; rfl]
  rw [show tm p0 (3 : Int32) (1 : Int32) (6 : Int32) = (dgt p0 (3 : Int32)).toInt64 * 100 from by unfold tm; rw [if_neg (by decide), if_pos (by decide)]; rfl]
  rw [show tm p0 (4 : Int32) (1 : Int32) (6 : Int32) = (dgt p0 (4 : Int32)).toInt64 * 10 from by unfold tm; rw [if_neg (by decide), if_pos (by decide)]; rfl]
  rw [show tm p0 (5 : Int32) (1 : Int32) (6 : Int32) = (dgt p0 (5 : Int32)).toInt64 * 1 from by unfold tm; rw [if_neg (by decide), if_pos (by decide)]; rfl]
  rw [show tm p0 (6 : Int32) (1 : Int32) (6 : Int32) = (0 : Int64) from by unfold tm; rw [if_neg (by decide), if_neg (by decide)]]
  rw [show tm p0 (7 : Int32) (1 : Int32) (6 : Int32) = (0 : Int64) from by unfold tm; rw [if_neg (by decide), if_neg (by decide)]]
  rw [show tm p0 (8 : Int32) (1 : Int32) (6 : Int32) = (0 : Int64) from by unfold tm; rw [if_neg (by decide), if_neg (by decide)]]
  rw [show tm p0 (9 : Int32) (1 : Int32) (6 : Int32) = (0 : Int64) from by unfold tm; rw [if_neg (by decide), if_neg (by decide)]]
  generalize dgt p0 (1 : Int32) = d1
  generalize dgt p0 (2 : Int32) = d2
  generalize dgt p0 (3 : Int32) = d3
  generalize dgt p0 (4 : Int32) = d4
  generalize dgt p0 (5 : Int32) = d5
  simp only [Int64.toInt32_add, Int64.toInt32_mul, Int32.toInt32_toInt64, show Int64.toInt32 0 = 0 from rfl, show Int64.toInt32 1 = 1 from rfl, show Int64.toInt32 10 = 10 from rfl, show Int64.toInt32 100 = 100 from rfl, show Int64.toInt32 1000 = 1000 from rfl, show Int64.toInt32 10000 = 10000 from rfl, show Int64.toInt32 100000 = 100000 from rfl, show Int64.toInt32 1000000 = 1000000 from rfl, show Int64.toInt32 10000000 = 10000000 from rfl, show Int64.toInt32 100000000 = 100000000 from rfl, show Int64.toInt32 1000000000 = 1000000000 from rfl]
  show numr [(48 + d1), (48 + d2), (48 + d3), (48 + d4), (48 + d5), u6, u7, u8, u9] (1 : Int32) (6 : Int32) 0 = _
  rw [numr_c, if_pos (by decide)]
  rw [numr_c, if_pos (by decide)]
  rw [numr_c, if_pos (by decide)]
  rw [numr_c, if_pos (by decide)]
  rw [numr_c, if_pos (by decide)]
  rw [numr_c, if_neg (by decide)]
  grind
theorem ne_1_7 (p0 : Int64) (u0 u1 u2 u3 u4 u5 u6 u7 u8 u9 : Int32) : num10 [u0, ((48 : Int32) + dgt p0 (1 : Int32)), ((48 : Int32) + dgt p0 (2 : Int32)), ((48 : Int32) + dgt p0 (3 : Int32)), ((48 : Int32) + dgt p0 (4 : Int32)), ((48 : Int32) + dgt p0 (5 : Int32)), ((48 : Int32) + dgt p0 (6 : Int32)), u7, u8, u9] (1 : Int32) (7 : Int32) = ((((((((((tm p0 (0 : Int32) (1 : Int32) (7 : Int32)) + (tm p0 (1 : Int32) (1 : Int32) (7 : Int32))) + (tm p0 (2 : Int32) (1 : Int32) (7 : Int32))) + (tm p0 (3 : Int32) (1 : Int32) (7 : Int32))) + (tm p0 (4 : Int32) (1 : Int32) (7 : Int32))) + (tm p0 (5 : Int32) (1 : Int32) (7 : Int32))) + (tm p0 (6 : Int32) (1 : Int32) (7 : Int32))) + (tm p0 (7 : Int32) (1 : Int32) (7 : Int32))) + (tm p0 (8 : Int32) (1 : Int32) (7 : Int32))) + (tm p0 (9 : Int32) (1 : Int32) (7 : Int32))).toInt32 := by
  rw [show tm p0 (0 : Int32) (1 : Int32) (7 : Int32) = (0 : Int64) from if_pos (by decide)]
  rw [show tm p0 (1 : Int32) (1 : Int32) (7 : Int32) = (dgt p0 (1 : Int32)).toInt64 * 100000 from by unfold tm; rw [if_neg (by decide), if_pos (by decide)]; rfl]
  rw [show tm p0 (2 : Int32) (1 : Int32) (7 : Int32) = (dgt p0 (2 : Int32)).toInt64 * 10000 from by unfold tm; rw [if_neg (by decide), if_pos (by decide)]; rfl]
  rw [show tm p0 (3 : Int32) (1 : Int32) (7 : Int32) = (dgt p0 (3 : Int32)).toInt64 * 1000 from by unfold tm; rw [if_neg (by decide), if_pos (by decide)]; rfl]
  rw [show tm p0 (4 : Int32) (1 : Int32) (7 : Int32) = (dgt p0 (4 : Int32)).toInt64 * 100 from by unfold tm; rw [if_neg (by decide), if_pos (by decide)]; rfl]
  rw [show tm p0 (5 : Int32) (1 : Int32) (7 : Int32) = (dgt p0 (5 : Int32)).toInt64 * 10 from by unfold tm; rw [if_neg (by decide), if_pos (by decide)]; rfl]
  rw [show tm p0 (6 : Int32) (1 : Int32) (7 : Int32) = (dgt p0 (6 : Int32)).toInt64 * 1 from by unfold tm; rw [if_neg (by decide), if_pos (by decide)]; rfl]
  rw [show tm p0 (7 : Int32) (1 : Int32) (7 : Int32) = (0 : Int64) from by unfold tm; rw [if_neg (by decide), if_neg (by decide)]]
  rw [show tm p0 (8 : Int32) (1 : Int32) (7 : Int32) = (0 : Int64) from by unfold tm; rw [if_neg (by decide), if_neg (by decide)]]
  rw [show tm p0 (9 : Int32) (1 : Int32) (7 : Int32) = (0 : Int64) from by unfold tm; rw [if_neg (by decide), if_neg (by decide)]]
  generalize dgt p0 (1 : Int32) = d1
  generalize dgt p0 (2 : Int32) = d2
  generalize dgt p0 (3 : Int32) = d3
  generalize dgt p0 (4 : Int32) = d4
  generalize dgt p0 (5 : Int32) = d5
  generalize dgt p0 (6 : Int32) = d6
  simp only [Int64.toInt32_add, Int64.toInt32_mul, Int32.toInt32_toInt64, show Int64.toInt32 0 = 0 from rfl, show Int64.toInt32 1 = 1 from rfl, show Int64.toInt32 10 = 10 from rfl, show Int64.toInt32 100 = 100 from rfl, show Int64.toInt32 1000 = 1000 from rfl, show Int64.toInt32 10000 = 10000 from rfl, show Int64.toInt32 100000 = 100000 from rfl, show Int64.toInt32 1000000 = 1000000 from rfl, show Int64.toInt32 10000000 = 10000000 from rfl, show Int64.toInt32 100000000 = 100000000 from rfl, show Int64.toInt32 1000000000 = 1000000000 from rfl]
  show numr [(48 + d1), (48 + d2), (48 + d3), (48 + d4), (48 + d5), (48 + d6), u7, u8, u9] (1 : Int32) (7 : Int32) 0 = _
  rw [numr_c, if_pos (by decide)]
  rw [numr_c, if_pos (by decide)]
  rw [numr_c, if_pos (by decide)]
  rw [numr_c, if_pos (by decide)]
  rw [numr_c, if_pos (by decide)]
  rw [numr_c, if_pos (by decide)]
  rw [numr_c, if_neg (by decide)]
  grind
theorem ne_1_8 (p0 : Int64) (u0 u1 u2 u3 u4 u5 u6 u7 u8 u9 : Int32) : num10 [u0, ((48 : Int32) + dgt p0 (1 : Int32)), ((48 : Int32) + dgt p0 (2 : Int32)), ((48 : Int32) + dgt p0 (3 : Int32)), ((48 : Int32) + dgt p0 (4 : Int32)), ((48 : Int32) + dgt p0 (5 : Int32)), ((48 : Int32) + dgt p0 (6 : Int32)), ((48 : Int32) + dgt p0 (7 : Int32)), u8, u9] (1 : Int32) (8 : Int32) = ((((((((((tm p0 (0 : Int32) (1 : Int32) (8 : Int32)) + (tm p0 (1 : Int32) (1 : Int32) (8 : Int32))) + (tm p0 (2 : Int32) (1 : Int32) (8 : Int32))) + (tm p0 (3 : Int32) (1 : Int32) (8 : Int32))) + (tm p0 (4 : Int32) (1 : Int32) (8 : Int32))) + (tm p0 (5 : Int32) (1 : Int32) (8 : Int32))) + (tm p0 (6 : Int32) (1 : Int32) (8 : Int32))) + (tm p0 (7 : Int32) (1 : Int32) (8 : Int32))) + (tm p0 (8 : Int32) (1 : Int32) (8 : Int32))) + (tm p0 (9 : Int32) (1 : Int32) (8 : Int32))).toInt32 := by
  rw [show tm p0 (0 : Int32) (1 : Int32) (8 : Int32) = (0 : Int64) from if_pos (by decide)]
  rw [show tm p0 (1 : Int32) (1 : Int32) (8 : Int32) = (dgt p0 (1 : Int32)).toInt64 * 1000000 from by unfold tm; rw [if_neg (by decide), if_pos (by decide)]; rfl]
  rw [show tm p0 (2 : Int32) (1 : Int32) (8 : Int32) = (dgt p0 (2 : Int32)).toInt64 * 100000 from by unfold tm; rw [if_neg (by decide), if_pos (by decide)]; rfl]
  rw [show tm p0 (3 : Int32) (1 : Int32) (8 : Int32) = (dgt p0 (3 : Int32)).toInt64 * 10000 from by unfold tm; rw [if_neg (by decide), if_pos (by decide)]; rfl]
  rw [show tm p0 (4 : Int32) (1 : Int32) (8 : Int32) = (dgt p0 (4 : Int32)).toInt64 * 1000 from by unfold tm; rw [if_neg (by decide), if_pos (by decide)]; rfl]
  rw [show tm p0 (5 : Int32) (1 : Int32) (8 : Int32) = (dgt p0 (5 : Int32)).toInt64 * 100 from by unfold tm; rw [if_neg (by decide), if_pos (by decide)]; rfl]
  rw [show tm p0 (6 : Int32) (1 : Int32) (8 : Int32) = (dgt p0 (6 : Int32)).toInt64 * 10 from by unfold tm; rw [if_neg (by decide), if_pos (by decide)]; rfl]
  rw [show tm p0 (7 : Int32) (1 : Int32) (8 : Int32) = (dgt p0 (7 : Int32)).toInt64 * 1 from by unfold tm; rw [if_neg (by decide), if_pos (by decide)]; rfl]
  rw [show tm p0 (8 : Int32) (1 : Int32) (8 : Int32) = (0 : Int64) from by unfold tm; rw [if_neg (by decide), if_neg (by decide)]]
  rw [show tm p0 (9 : Int32) (1 : Int32) (8 : Int32) = (0 : Int64) from by unfold tm; rw [if_neg (by decide), if_neg (by decide)]]
  generalize dgt p0 (1 : Int32) = d1
  generalize dgt p0 (2 : Int32) = d2
  generalize dgt p0 (3 : Int32) = d3
  generalize dgt p0 (4 : Int32) = d4
  generalize dgt p0 (5 : Int32) = d5
  generalize dgt p0 (6 : Int32) = d6
  generalize dgt p0 (7 : Int32) = d7
  simp only [Int64.toInt32_add, Int64.toInt32_mul, Int32.toInt32_toInt64, show Int64.toInt32 0 = 0 from rfl, show Int64.toInt32 1 = 1 from rfl, show Int64.toInt32 10 = 10 from rfl, show Int64.toInt32 100 = 100 from rfl, show Int64.toInt32 1000 = 1000 from rfl, show Int64.toInt32 10000 = 10000 from rfl, show Int64.toInt32 100000 = 100000 from rfl, show Int64.toInt32 1000000 = 1000000 from rfl, show Int64.toInt32 10000000 = 10000000 from rfl, show Int64.toInt32 100000000 = 100000000 from rfl, show Int64.toInt32 1000000000 = 1000000000 from rfl]
  show numr [(48 + d1), (48 + d2), (48 + d3), (48 + d4), (48 + d5), (48 + d6), (48 + d7), u8, u9] (1 : Int32) (8 : Int32) 0 = _
  rw [numr_c, if_pos (by decide)]
  rw [numr_c, if_pos (by decide)]
  rw [numr_c, if_pos (by decide)]
  rw [numr_c, if_pos (by decide)]
  rw [numr_c, if_pos (by decide)]
  rw [numr_c, if_pos (by decide)]
  rw [numr_c, if_pos (by decide)]
  rw [numr_c, if_neg (by decide)]
  grind
theorem ne_1_9 (p0 : Int64) (u0 u1 u2 u3 u4 u5 u6 u7 u8 u9 : Int32) : num10 [u0, ((48 : Int32) + dgt p0 (1 : Int32)), ((48 : Int32) + dgt p0 (2 : Int32)), ((48 : Int32) + dgt p0 (3 : Int32)), ((48 : Int32) + dgt p0 (4 : Int32)), ((48 : Int32) + dgt p0 (5 : Int32)), ((48 : Int32) + dgt p0 (6 : Int32)), ((48 : Int32) + dgt p0 (7 : Int32)), ((48 : Int32) + dgt p0 (8 : Int32)), u9] (1 : Int32) (9 : Int32) = ((((((((((tm p0 (0 : Int32) (1 : Int32) (9 : Int32)) + (tm p0 (1 : Int32) (1 : Int32) (9 : Int32))) + (tm p0 (2 : Int32) (1 : Int32) (9 : Int32))) + (tm p0 (3 : Int32) (1 : Int32) (9 : Int32))) + (tm p0 (4 : Int32) (1 : Int32) (9 : Int32))) + (tm p0 (5 : Int32) (1 : Int32) (9 : Int32))) + (tm p0 (6 : Int32) (1 : Int32) (9 : Int32))) + (tm p0 (7 : Int32) (1 : Int32) (9 : Int32))) + (tm p0 (8 : Int32) (1 : Int32) (9 : Int32))) + (tm p0 (9 : Int32) (1 : Int32) (9 : Int32))).toInt32 := by
  rw [show tm p0 (0 : Int32) (1 : Int32) (9 : Int32) = (0 : Int64) from if_pos (by decide)]
  rw [show tm p0 (1 : Int32) (1 : Int32) (9 : Int32) = (dgt p0 (1 : Int32)).toInt64 * 10000000 from by unfold tm; rw [if_neg (by decide), if_pos (by decide)]; rfl]
  rw [show tm p0 (2 : Int32) (1 : Int32) (9 : Int32) = (dgt p0 (2 : Int32)).toInt64 * 1000000 from by unfold tm; rw [if_neg (by decide), if_pos (by decide)]; rfl]
  rw [show tm p0 (3 : Int32) (1 : Int32) (9 : Int32) = (dgt p0 (3 : Int32)).toInt64 * 100000 from by unfold tm; rw [if_neg (by decide), if_pos (by decide)]; rfl]
  rw [show tm p0 (4 : Int32) (1 : Int32) (9 : Int32) = (dgt p0 (4 : Int32)).toInt64 * 10000 from by unfold tm; rw [if_neg (by decide), if_pos (by decide)]; rfl]
  rw [show tm p0 (5 : Int32) (1 : Int32) (9 : Int32) = (dgt p0 (5 : Int32)).toInt64 * 1000 from by unfold tm; rw [if_neg (by decide), if_pos (by decide)]; rfl]
  rw [show tm p0 (6 : Int32) (1 : Int32) (9 : Int32) = (dgt p0 (6 : Int32)).toInt64 * 100 from by unfold tm; rw [if_neg (by decide), if_pos (by decide)]; rfl]
  rw [show tm p0 (7 : Int32) (1 : Int32) (9 : Int32) = (dgt p0 (7 : Int32)).toInt64 * 10 from by unfold tm; rw [if_neg (by decide), if_pos (by decide)]; rfl]
  rw [show tm p0 (8 : Int32) (1 : Int32) (9 : Int32) = (dgt p0 (8 : Int32)).toInt64 * 1 from by unfold tm; rw [if_neg (by decide), if_pos (by decide)]; rfl]
  rw [show tm p0 (9 : Int32) (1 : Int32) (9 : Int32) = (0 : Int64) from by unfold tm; rw [if_neg (by decide), if_neg (by decide)]]
  generalize dgt p0 (1 : Int32) = d1
  generalize dgt p0 (2 : Int32) = d2
  generalize dgt p0 (3 : Int32) = d3
  generalize dgt p0 (4 : Int32) = d4
  generalize dgt p0 (5 : Int32) = d5
  generalize dgt p0 (6 : Int32) = d6
  generalize dgt p0 (7 : Int32) = d7
  generalize dgt p0 (8 : Int32) = d8
  simp only [Int64.toInt32_add, Int64.toInt32_mul, Int32.toInt32_toInt64, show Int64.toInt32 0 = 0 from rfl, show Int64.toInt32 1 = 1 from rfl, show Int64.toInt32 10 = 10 from rfl, show Int64.toInt32 100 = 100 from rfl, show Int64.toInt32 1000 = 1000 from rfl, show Int64.toInt32 10000 = 10000 from rfl, show Int64.toInt32 100000 = 100000 from rfl, show Int64.toInt32 1000000 = 1000000 from rfl, show Int64.toInt32 10000000 = 10000000 from rfl, show Int64.toInt32 100000000 = 100000000 from rfl, show Int64.toInt32 1000000000 = 1000000000 from rfl]
  show numr [(48 + d1), (48 + d2), (48 + d3), (48 + d4), (48 + d5), (48 + d6), (48 + d7), (48 + d8), u9] (1 : Int32) (9 : Int32) 0 = _
  rw [numr_c, if_pos (by decide)]
  rw [numr_c, if_pos (by decide)]
  rw [numr_c, if_pos (by decide)]
  rw [numr_c, if_pos (by decide)]
  rw [numr_c, if_pos (by decide)]
  rw [numr_c, if_pos (by decide)]
  rw [numr_c, if_pos (by decide)]
  rw [numr_c, if_pos (by decide)]
  rw [numr_c, if_neg (by decide)]
  grind
theorem ne_1_10 (p0 : Int64) (u0 u1 u2 u3 u4 u5 u6 u7 u8 u9 : Int32) : num10 [u0, ((48 : Int32) + dgt p0 (1 : Int32)), ((48 : Int32) + dgt p0 (2 : Int32)), ((48 : Int32) + dgt p0 (3 : Int32)), ((48 : Int32) + dgt p0 (4 : Int32)), ((48 : Int32) + dgt p0 (5 : Int32)), ((48 : Int32) + dgt p0 (6 : Int32)), ((48 : Int32) + dgt p0 (7 : Int32)), ((48 : Int32) + dgt p0 (8 : Int32)), ((48 : Int32) + dgt p0 (9 : Int32))] (1 : Int32) (10 : Int32) = ((((((((((tm p0 (0 : Int32) (1 : Int32) (10 : Int32)) + (tm p0 (1 : Int32) (1 : Int32) (10 : Int32))) + (tm p0 (2 : Int32) (1 : Int32) (10 : Int32))) + (tm p0 (3 : Int32) (1 : Int32) (10 : Int32))) + (tm p0 (4 : Int32) (1 : Int32) (10 : Int32))) + (tm p0 (5 : Int32) (1 : Int32) (10 : Int32))) + (tm p0 (6 : Int32) (1 : Int32) (10 : Int32))) + (tm p0 (7 : Int32) (1 : Int32) (10 : Int32))) + (tm p0 (8 : Int32) (1 : Int32) (10 : Int32))) + (tm p0 (9 : Int32) (1 : Int32) (10 : Int32))).toInt32 := by
  rw [show tm p0 (0 : Int32) (1 : Int32) (10 : Int32) = (0 : Int64) from if_pos (by decide)]
  rw [show tm p0 (1 : Int32) (1 : Int32) (10 : Int32) = (dgt p0 (1 : Int32)).toInt64 * 100000000 from by unfold tm; rw [if_neg (by decide), if_pos (by decide)]; rfl]
  rw [show tm p0 (2 : Int32) (1 : Int32) (10 : Int32) = (dgt p0 (2 : Int32)).toInt64 * 10000000 from by unfold tm; rw [if_neg (by decide), if_pos (by decide)]; rfl]
  rw [show tm p0 (3 : Int32) (1 : Int32) (10 : Int32) = (dgt p0 (3 : Int32)).toInt64 * 1000000 from by unfold tm; rw [if_neg (by decide), if_pos (by decide)]; rfl]
  rw [show tm p0 (4 : Int32) (1 : Int32) (10 : Int32) = (dgt p0 (4 : Int32)).toInt64 * 100000 from by unfold tm; rw [if_neg (by decide), if_pos (by decide)]; rfl]
  rw [show tm p0 (5 : Int32) (1 : Int32) (10 : Int32) = (dgt p0 (5 : Int32)).toInt64 * 10000 from by unfold tm; rw [if_neg (by decide), if_pos (by decide)]; rfl]
  rw [show tm p0 (6 : Int32) (1 : Int32) (10 : Int32) = (dgt p0 (6 : Int32)).toInt64 * 1000 from by unfold tm; rw [if_neg (by decide), if_pos (by decide)]; rfl]
  rw [show tm p0 (7 : Int32) (1 : Int32) (10 : Int32) = (dgt p0 (7 : Int32)).toInt64 * 100 from by unfold tm; rw [if_neg (by decide), if_pos (by decide)]; rfl]
  rw [show tm p0 (8 : Int32) (1 : Int32) (10 : Int32) = (dgt p0 (8 : Int32)).toInt64 * 10 from by unfold tm; rw [if_neg (by decide), if_pos (by decide)]; rfl]
  rw [show tm p0 (9 : Int32) (1 : Int32) (10 : Int32) = (dgt p0 (9 : Int32)).toInt64 * 1 from by unfold tm; rw [if_neg (by decide), if_pos (by decide)]; rfl]
  generalize dgt p0 (1 : Int32) = d1
  generalize dgt p0 (2 : Int32) = d2
  generalize dgt p0 (3 : Int32) = d3
  generalize dgt p0 (4 : Int32) = d4
  generalize dgt p0 (5 : Int32) = d5
  generalize dgt p0 (6 : Int32) = d6
  generalize dgt p0 (7 : Int32) = d7
  generalize dgt p0 (8 : Int32) = d8
  generalize dgt p0 (9 : Int32) = d9
  simp only [Int64.toInt32_add, Int64.toInt32_mul, Int32.toInt32_toInt64, show Int64.toInt32 0 = 0 from rfl, show Int64.toInt32 1 = 1 from rfl, show Int64.toInt32 10 = 10 from rfl, show Int64.toInt32 100 = 100 from rfl, show Int64.toInt32 1000 = 1000 from rfl, show Int64.toInt32 10000 = 10000 from rfl, show Int64.toInt32 100000 = 100000 from rfl, show Int64.toInt32 1000000 = 1000000 from rfl, show Int64.toInt32 10000000 = 10000000 from rfl, show Int64.toInt32 100000000 = 100000000 from rfl, show Int64.toInt32 1000000000 = 1000000000 from rfl]
  show numr [(48 + d1), (48 + d2), (48 + d3), (48 + d4), (48 + d5), (48 + d6), (48 + d7), (48 + d8), (48 + d9)] (1 : Int32) (10 : Int32) 0 = _
  rw [numr_c, if_pos (by decide)]
  rw [numr_c, if_pos (by decide)]
  rw [numr_c, if_pos (by decide)]
  rw [numr_c, if_pos (by decide)]
  rw [numr_c, if_pos (by decide)]
  rw [numr_c, if_pos (by decide)]
  rw [numr_c, if_pos (by decide)]
  rw [numr_c, if_pos (by decide)]
  rw [numr_c, if_pos (by decide)]
  unfold numr
  grind

theorem ne_2_2 (p0 : Int64) (u0 u1 u2 u3 u4 u5 u6 u7 u8 u9 : Int32) : num10 [u0, u1, u2, u3, u4, u5, u6, u7, u8, u9] (2 : Int32) (2 : Int32) = ((((((((((tm p0 (0 : Int32) (2 : Int32) (2 : Int32)) + (tm p0 (1 : Int32) (2 : Int32) (2 : Int32))) + (tm p0 (2 : Int32) (2 : Int32) (2 : Int32))) + (tm p0 (3 : Int32) (2 : Int32) (2 : Int32))) + (tm p0 (4 : Int32) (2 : Int32) (2 : Int32))) + (tm p0 (5 : Int32) (2 : Int32) (2 : Int32))) + (tm p0 (6 : Int32) (2 : Int32) (2 : Int32))) + (tm p0 (7 : Int32) (2 : Int32) (2 : Int32))) + (tm p0 (8 : Int32) (2 : Int32) (2 : Int32))) + (tm p0 (9 : Int32) (2 : Int32) (2 : Int32))).toInt32 := by
  rw [show tm p0 (0 : Int32) (2 : Int32) (2 : Int32) = (0 : Int64) from if_pos (by decide)]
  rw [show tm p0 (1 : Int32) (2 : Int32) (2 : Int32) = (0 : Int64) from if_pos (by decide)]
  rw [show tm p0 (2 : Int32) (2 : Int32) (2 : Int32) = (0 : Int64) from by unfold tm; rw [if_neg (by decide), if_neg (by decide)]]
  rw [show tm p0 (3 : Int32) (2 : Int32) (2 : Int32) = (0 : Int64) from by unfold tm; rw [if_neg (by decide), if_neg (by decide)]]
  rw [show tm p0 (4 : Int32) (2 : Int32) (2 : Int32) = (0 : Int64) from by unfold tm; rw [if_neg (by decide), if_neg (by decide)]]
  rw [show tm p0 (5 : Int32) (2 : Int32) (2 : Int32) = (0 : Int64) from by unfold tm; rw [if_neg (by decide), if_neg (by decide)]]
  rw [show tm p0 (6 : Int32) (2 : Int32) (2 : Int32) = (0 : Int64) from by unfold tm; rw [if_neg (by decide), if_neg (by decide)]]
  rw [show tm p0 (7 : Int32) (2 : Int32) (2 : Int32) = (0 : Int64) from by unfold tm; rw [if_neg (by decide), if_neg (by decide)]]
  rw [show tm p0 (8 : Int32) (2 : Int32) (2 : Int32) = (0 : Int64) from by unfold tm; rw [if_neg (by decide), if_neg (by decide)]]
  rw [show tm p0 (9 : Int32) (2 : Int32) (2 : Int32) = (0 : Int64) from by unfold tm; rw [if_neg (by decide), if_neg (by decide)]]
  simp only [Int64.toInt32_add, Int64.toInt32_mul, Int32.toInt32_toInt64, show Int64.toInt32 0 = 0 from rfl, show Int64.toInt32 1 = 1 from rfl, show Int64.toInt32 10 = 10 from rfl, show Int64.toInt32 100 = 100 from rfl, show Int64.toInt32 1000 = 1000 from rfl, show Int64.toInt32 10000 = 10000 from rfl, show Int64.toInt32 100000 = 100000 from rfl, show Int64.toInt32 1000000 = 1000000 from rfl, show Int64.toInt32 10000000 = 10000000 from rfl, show Int64.toInt32 100000000 = 100000000 from rfl, show Int64.toInt32 1000000000 = 1000000000 from rfl]
  show numr [u2, u3, u4, u5, u6, u7, u8, u9] (2 : Int32) (2 : Int32) 0 = _
  rw [numr_c, if_neg (by decide)]
  grind
theorem ne_2_3 (p0 : Int64) (u0 u1 u2 u3 u4 u5 u6 u7 u8 u9 : Int32) : num10 [u0, u1, ((48 : Int32) + dgt p0 (2 : Int32)), u3, u4, u5, u6, u7, u8, u9] (2 : Int32) (3 : Int32) = ((((((((((tm p0 (0 : Int32) (2 : Int32) (3 : Int32)) + (tm p0 (1 : Int32) (2 : Int32) (3 : Int32))) + (tm p0 (2 : Int32) (2 : Int32) (3 : Int32))) + (tm p0 (3 : Int32) (2 : Int32) (3 : Int32))) + (tm p0 (4 : Int32) (2 : Int32) (3 : Int32))) + (tm p0 (5 : Int32) (2 : Int32) (3 : Int32))) + (tm p0 (6 : Int32) (2 : Int32) (3 : Int32))) + (tm p0 (7 : Int32) (2 : Int32) (3 : Int32))) + (tm p0 (8 : Int32) (2 : Int32) (3 : Int32))) + (tm p0 (9 : Int32) (2 : Int32) (3 : Int32))).toInt32 := by
  rw [show tm p0 (0 : Int32) (2 : Int32) (3 : Int32) = (0 : Int64) from if_pos (by decide)]
  rw [show tm p0 (1 : Int32) (2 : Int32) (3 : Int32) = (0 : Int64) from if_pos (by decide)]
  rw [show tm p0 (2 : Int32) (2 : Int32) (3 : Int32) = (dgt p0 (2 : Int32)).toInt64 * 1 from by unfold tm; rw [if_neg (by decide), if_pos (by decide)]; rfl]
  rw [show tm p0 (3 : Int32) (2 : Int32) (3 : Int32) = (0 : Int64) from by unfold tm; rw [if_neg (by decide), if_neg (by decide)]]
  rw [show tm p0 (4 : Int32) (2 : Int32) (3 : Int32) = (0 : Int64) from by unfold tm; rw [if_neg (by decide), if_neg (by decide)]]
  rw [show tm p0 (5 : Int32) (2 : Int32) (3 : Int32) = (0 : Int64) from by unfold tm; rw [if_neg (by decide), if_neg (by decide)]]
  rw [show tm p0 (6 : Int32) (2 : Int32) (3 : Int32) = (0 : Int64) from by unfold tm; rw [if_neg (by decide), if_neg (by decide)]]
  rw [show tm p0 (7 : Int32) (2 : Int32) (3 : Int32) = (0 : Int64) from by unfold tm; rw [if_neg (by decide), if_neg (by decide)]]
  rw [show tm p0 (8 : Int32) (2 : Int32) (3 : Int32) = (0 : Int64) from by unfold tm; rw [if_neg (by decide), if_neg (by decide)]]
  rw [show tm p0 (9 : Int32) (2 : Int32) (3 : Int32) = (0 : Int64) from by unfold tm; rw [if_neg (by decide), if_neg (by decide)]]
  generalize dgt p0 (2 : Int32) = d2
  simp only [Int64.toInt32_add, Int64.toInt32_mul, Int32.toInt32_toInt64, show Int64.toInt32 0 = 0 from rfl, show Int64.toInt32 1 = 1 from rfl, show Int64.toInt32 10 = 10 from rfl, show Int64.toInt32 100 = 100 from rfl, show Int64.toInt32 1000 = 1000 from rfl, show Int64.toInt32 10000 = 10000 from rfl, show Int64.toInt32 100000 = 100000 from rfl, show Int64.toInt32 1000000 = 1000000 from rfl, show Int64.toInt32 10000000 = 10000000 from rfl, show Int64.toInt32 100000000 = 100000000 from rfl, show Int64.toInt32 1000000000 = 1000000000 from rfl]
  show numr [(48 + d2), u3, u4, u5, u6, u7, u8, u9] (2 : Int32) (3 : Int32) 0 = _
  rw [numr_c, if_pos (by decide)]
  rw [numr_c, if_neg (by decide)]
  grind
theorem ne_2_4 (p0 : Int64) (u0 u1 u2 u3 u4 u5 u6 u7 u8 u9 : Int32) : num10 [u0, u1, ((48 : Int32) + dgt p0 (2 : Int32)), ((48 : Int32) + dgt p0 (3 : Int32)), u4, u5, u6, u7, u8, u9] (2 : Int32) (4 : Int32) = ((((((((((tm p0 (0 : Int32) (2 : Int32) (4 : Int32)) + (tm p0 (1 : Int32) (2 : Int32) (4 : Int32))) + (tm p0 (2 : Int32) (2 : Int32) (4 : Int32))) + (tm p0 (3 : Int32) (2 : Int32) (4 : Int32))) + (tm p0 (4 : Int32) (2 : Int32) (4 : Int32))) + (tm p0 (5 : Int32) (2 : Int32) (4 : Int32))) + (tm p0 (6 : Int32) (2 : Int32) (4 : Int32))) + (tm p0 (7 : Int32) (2 : Int32) (4 : Int32))) + (tm p0 (8 : Int32) (2 : Int32) (4 : Int32))) + (tm p0 (9 : Int32) (2 : Int32) (4 : Int32))).toInt32 := by
  rw [show tm p0 (0 : Int32) (2 : Int32) (4 : Int32) = (0 : Int64) from if_pos (by decide)]
  rw [show tm p0 (1 : Int32) (2 : Int32) (4 : Int32) = (0 : Int64) from if_pos (by decide)]
  rw [show tm p0 (2 : Int32) (2 : Int32) (4 : Int32) = (dgt p0 (2 : Int32)).toInt64 * 10 from by unfold tm; rw [if_neg (by decide), if_pos (by decide)]; rfl]
  rw [show tm p0 (3 : Int32) (2 : Int32) (4 : Int32) = (dgt p0 (3 : Int32)).toInt64 * 1 from by unfold tm; rw [if_neg (by decide), if_pos (by decide)]; rfl]
  rw [show tm p0 (4 : Int32) (2 : Int32) (4 : Int32) = (0 : Int64) from by unfold tm; rw [if_neg (by decide), if_neg (by decide)]]
  rw [show tm p0 (5 : Int32) (2 : Int32) (4 : Int32) = (0 : Int64) from by unfold tm; rw [if_neg (by decide), if_neg (by decide)]]
  rw [show tm p0 (6 : Int32) (2 : Int32) (4 : Int32) = (0 : Int64) from by unfold tm; rw [if_neg (by decide), if_neg (by decide)]]
  rw [show tm p0 (7 : Int32) (2 : Int32) (4 : Int32) = (0 : Int64) from by unfold tm; rw [if_neg (by decide), if_neg (by decide)]]
  rw [show tm p0 (8 : Int32) (2 : Int32) (4 : Int32) = (0 : Int64) from by unfold tm; rw [if_neg (by decide), if_neg (by decide)]]
  rw [show tm p0 (9 : Int32) (2 : Int32) (4 : Int32) = (0 : Int64) from by unfold tm; rw [if_neg (by decide), if_neg (by decide)]]
  generalize dgt p0 (2 : Int32) = d2
  generalize dgt p0 (3 : Int32) = d3
  simp only [Int64.toInt32_add, Int64.toInt32_mul, Int32.toInt32_toInt64, show Int64.toInt32 0 = 0 from rfl, show Int64.toInt32 1 = 1 from rfl, show Int64.toInt32 10 = 10 from rfl, show Int64.toInt32 100 = 100 from rfl, show Int64.toInt32 1000 = 1000 from rfl, show Int64.toInt32 10000 = 10000 from rfl, show Int64.toInt32 100000 = 100000 from rfl, show Int64.toInt32 1000000 = 1000000 from rfl, show Int64.toInt32 10000000 = 10000000 from rfl, show Int64.toInt32 100000000 = 100000000 from rfl, show Int64.toInt32 1000000000 = 1000000000 from rfl]
  show numr [(48 + d2), (48 + d3), u4, u5, u6, u7, u8, u9] (2 : Int32) (4 : Int32) 0 = _
  rw [numr_c, if_pos (by decide)]
  rw [numr_c, if_pos (by decide)]
  rw [numr_c, if_neg (by decide)]
  grind
theorem ne_2_5 (p0 : Int64) (u0 u1 u2 u3 u4 u5 u6 u7 u8 u9 : Int32) : num10 [u0, u1, ((48 : Int32) + dgt p0 (2 : Int32)), ((48 : Int32) + dgt p0 (3 : Int32)), ((48 : Int32) + dgt p0 (4 : Int32)), u5, u6, u7, u8, u9] (2 : Int32) (5 : Int32) = ((((((((((tm p0 (0 : Int32) (2 : Int32) (5 : Int32)) + (tm p0 (1 : Int32) (2 : Int32) (5 : Int32))) + (tm p0 (2 : Int32) (2 : Int32) (5 : Int32))) + (tm p0 (3 : Int32) (2 : Int32) (5 : Int32))) + (tm p0 (4 : Int32) (2 : Int32) (5 : Int32))) + (tm p0 (5 : Int32) (2 : Int32) (5 : Int32))) + (tm p0 (6 : Int32) (2 : Int32) (5 : Int32))) + (tm p0 (7 : Int32) (2 : Int32) (5 : Int32))) + (tm p0 (8 : Int32) (2 : Int32) (5 : Int32))) + (tm p0 (9 : Int32) (2 : Int32) (5 : Int32))).toInt32 := by
  rw [show tm p0 (0 : Int32) (2 : Int32) (5 : Int32) = (0 : Int64) from if_pos (by decide)]
  rw [show tm p0 (1 : Int32) (2 : Int32) (5 : Int32) = (0 : Int64) from if_pos (by decide)]
  rw [show tm p0 (2 : Int32) (2 : Int32) (5 : Int32) = (dgt p0 (2 : Int32)).toInt64 * 100 from by unfold tm; rw [if_neg (by decide), if_pos (by decide)]; rfl]
  rw [show tm p0 (3 : Int32) (2 : Int32) (5 : Int32) = (dgt p0 (3 : Int32)).toInt64 * 10 from by unfold tm; rw [if_neg (by decide), if_pos (by decide)]; rfl]
  rw [show tm p0 (4 : Int32) (2 : Int32) (5 : Int32) = (dgt p0 (4 : Int32)).toInt64 * 1 from by unfold tm; rw [if_neg (by decide), if_pos (by decide)]; rfl]
  rw [show tm p0 (5 : Int32) (2 : Int32) (5 : Int32) = (0 : Int64) from by unfold tm; rw [if_neg (by decide), if_neg (by decide)]]
  rw [show tm p0 (6 : Int32) (2 : Int32) (5 : Int32) = (0 : Int64) from by unfold tm; rw [if_neg (by decide), if_neg (by decide)]]
  rw [show tm p0 (7 : Int32) (2 : Int32) (5 : Int32) = (0 : Int64) from by unfold tm; rw [if_neg (by decide), if_neg (by decide)]]
  rw [show tm p0 (8 : Int32) (2 : Int32) (5 : Int32) = (0 : Int64) from by unfold tm; rw [if_neg (by decide), if_neg (by decide)]]
  rw [show tm p0 (9 : Int32) (2 : Int32) (5 : Int32) = (0 : Int64) from by unfold tm; rw [if_neg (by decide), if_neg (by decide)]]
  generalize dgt p0 (2 : Int32) = d2
  generalize dgt p0 (3 : Int32) = d3
  generalize dgt p0 (4 : Int32) = d4
  simp only [Int64.toInt32_add, Int64.toInt32_mul, Int32.toInt32_toInt64, show Int64.toInt32 0 = 0 from rfl, show Int64.toInt32 1 = 1 from rfl, show Int64.toInt32 10 = 10 from rfl, show Int64.toInt32 100 = 100 from rfl, show Int64.toInt32 1000 = 1000 from rfl, show Int64.toInt32 10000 = 10000 from rfl, show Int64.toInt32 100000 = 100000 from rfl, show Int64.toInt32 1000000 = 1000000 from rfl, show Int64.toInt32 10000000 = 10000000 from rfl, show Int64.toInt32 100000000 = 100000000 from rfl, show Int64.toInt32 1000000000 = 1000000000 from rfl]
  show numr [(48 + d2), (48 + d3), (48 + d4), u5, u6, u7, u8, u9] (2 : Int32) (5 : Int32) 0 = _
  rw [numr_c, if_pos (by decide)]
  rw [numr_c, if_pos (by decide)]
  rw [numr_c, if_pos (by decide)]
  rw [numr_c, if_neg (by decide)]
  grind
theorem ne_2_6 (p0 : Int64) (u0 u1 u2 u3 u4 u5 u6 u7 u8 u9 : Int32) : num10 [u0, u1, ((48 : Int32) + dgt p0 (2 : Int32)), ((48 : Int32) + dgt p0 (3 : Int32)), ((48 : Int32) + dgt p0 (4 : Int32)), ((48 : Int32) + dgt p0 (5 : Int32)), u6, u7, u8, u9] (2 : Int32) (6 : Int32) = ((((((((((tm p0 (0 : Int32) (2 : Int32) (6 : Int32)) + (tm p0 (1 : Int32) (2 : Int32) (6 : Int32))) + (tm p0 (2 : Int32) (2 : Int32) (6 : Int32))) + (tm p0 (3 : Int32) (2 : Int32) (6 : Int32))) + (tm p0 (4 : Int32) (2 : Int32) (6 : Int32))) + (tm p0 (5 : Int32) (2 : Int32) (6 : Int32))) + (tm p0 (6 : Int32) (2 : Int32) (6 : Int32))) + (tm p0 (7 : Int32) (2 : Int32) (6 : Int32))) + (tm p0 (8 : Int32) (2 : Int32) (6 : Int32))) + (tm p0 (9 : Int32) (2 : Int32) (6 : Int32))).toInt32 := by
  rw [show tm p0 (0 : Int32) (2 : Int32) (6 : Int32) = (0 : Int64) from if_pos (by decide)]
  rw [show tm p0 (1 : Int32) (2 : Int32) (6 : Int32) = (0 : Int64) from if_pos (by decide)]
  rw [show tm p0 (2 : Int32) (2 : Int32) (6 : Int32) = (dgt p0 (2 : Int32)).toInt64 * 1000 from by unfold tm; rw [if_neg (by decide), if_pos (by decide)]; rfl]
  rw [show tm p0 (3 : Int32) (2 : Int32) (6 : Int32) = (dgt p0 (3 : Int32)).toInt64 * 100 from by unfold tm; rw [if_neg (by decide), if_pos (by decide)]; rfl]
  rw [show tm p0 (4 : Int32) (2 : Int32) (6 : Int32) = (dgt p0 (4 : Int32)).toInt64 * 10 from by unfold tm; rw [if_neg (by decide), if_pos (by decide)]; rfl]
  rw [show tm p0 (5 : Int32) (2 : Int32) (6 : Int32) = (dgt p0 (5 : Int32)).toInt64 * 1 from by unfold tm; rw [if_neg (by decide), if_pos (by decide)]; rfl]
  rw [show tm p0 (6 : Int32) (2 : Int32) (6 : Int32) = (0 : Int64) from by unfold tm; rw [if_neg (by decide), if_neg (by decide)]]
  rw [show tm p0 (7 : Int32) (2 : Int32) (6 : Int32) = (0 : Int64) from by unfold tm; rw [if_neg (by decide), if_neg (by decide)]]
  rw [show tm p0 (8 : Int32) (2 : Int32) (6 : Int32) = (0 : Int64) from by unfold tm; rw [if_neg (by decide), if_neg (by decide)]]
  rw [show tm p0 (9 : Int32) (2 : Int32) (6 : Int32) = (0 : Int64) from by unfold tm; rw [if_neg (by decide), if_neg (by decide)]]
  generalize dgt p0 (2 : Int32) = d2
  generalize dgt p0 (3 : Int32) = d3
  generalize dgt p0 (4 : Int32) = d4
  generalize dgt p0 (5 : Int32) = d5
  simp only [Int64.toInt32_add, Int64.toInt32_mul, Int32.toInt32_toInt64, show Int64.toInt32 0 = 0 from rfl, show Int64.toInt32 1 = 1 from rfl, show Int64.toInt32 10 = 10 from rfl, show Int64.toInt32 100 = 100 from rfl, show Int64.toInt32 1000 = 1000 from rfl, show Int64.toInt32 10000 = 10000 from rfl, show Int64.toInt32 100000 = 100000 from rfl, show Int64.toInt32 1000000 = 1000000 from rfl, show Int64.toInt32 10000000 = 10000000 from rfl, show Int64.toInt32 100000000 = 100000000 from rfl, show Int64.toInt32 1000000000 = 1000000000 from rfl]
  show numr [(48 + d2), (48 + d3), (48 + d4), (48 + d5), u6, u7, u8, u9] (2 : Int32) (6 : Int32) 0 = _
  rw [numr_c, if_pos (by decide)]
  rw [numr_c, if_pos (by decide)]
  rw [numr_c, if_pos (by decide)]
  rw [numr_c, if_pos (by decide)]
  rw [numr_c, if_neg (by decide)]
  grind
theorem ne_2_7 (p0 : Int64) (u0 u1 u2 u3 u4 u5 u6 u7 u8 u9 : Int32) : num10 [u0, u1, ((48 : Int32) + dgt p0 (2 : Int32)), ((48 : Int32) + dgt p0 (3 : Int32)), ((48 : Int32) + dgt p0 (4 : Int32)), ((48 : Int32) + dgt p0 (5 : Int32)), ((48 : Int32) + dgt p0 (6 : Int32)), u7, u8, u9] (2 : Int32) (7 : Int32) = ((((((((((tm p0 (0 : Int32) (2 : Int32) (7 : Int32)) + (tm p0 (1 : Int32) (2 : Int32) (7 : Int32))) + (tm p0 (2 : Int32) (2 : Int32) (7 : Int32))) + (tm p0 (3 : Int32) (2 : Int32) (7 : Int32))) + (tm p0 (4 : Int32) (2 : Int32) (7 : Int32))) + (tm p0 (5 : Int32) (2 : Int32) (7 : Int32))) + (tm p0 (6 : Int32) (2 : Int32) (7 : Int32))) + (tm p0 (7 : Int32) (2 : Int32) (7 : Int32))) + (tm p0 (8 : Int32) (2 : Int32) (7 : Int32))) + (tm p0 (9 : Int32) (2 : Int32) (7 : Int32))).toInt32 := by
  rw [show tm p0 (0 : Int32) (2 : Int32) (7 : Int32) = (0 : Int64) from if_pos (by decide)]
  rw [show tm p0 (1 : Int32) (2 : Int32) (7 : Int32) = (0 : Int64) from if_pos (by decide)]
  rw [show tm p0 (2 : Int32) (2 : Int32) (7 : Int32) = (dgt p0 (2 : Int32)).toInt64 * 10000 from by unfold tm; rw [if_neg (by decide), if_pos (by decide)]; rfl]
  rw [show tm p0 (3 : Int32) (2 : Int32) (7 : Int32) = (dgt p0 (3 : Int32)).toInt64 * 1000 from by unfold tm; rw [if_neg (by decide), if_pos (by decide)]; rfl]
  rw [show tm p0 (4 : Int32) (2 : Int32) (7 : Int32) = (dgt p0 (4 : Int32)).toInt64 * 100 from by unfold tm; rw [if_neg (by decide), if_pos (by decide)]; rfl]
  rw [show tm p0 (5 : Int32) (2 : Int32) (7 : Int32) = (dgt p0 (5 : Int32)).toInt64 * 10 from by unfold tm; rw [if_neg (by decide), if_pos (by decide)]; rfl]
  rw [show tm p0 (6 : Int32) (2 : Int32) (7 : Int32) = (dgt p0 (6 : Int32)).toInt64 * 1 from by unfold tm; rw [if_neg (by decide), if_pos (by decide)]; rfl]
  rw [show tm p0 (7 : Int32) (2 : Int32) (7 : Int32) = (0 : Int64) from by unfold tm; rw [if_neg (by decide), if_neg (by decide)]]
  rw [show tm p0 (8 : Int32) (2 : Int32) (7 : Int32) = (0 : Int64) from by unfold tm; rw [if_neg (by decide), if_neg (by decide)]]
  rw [show tm p0 (9 : Int32) (2 : Int32) (7 : Int32) = (0 : Int64) from by unfold tm; rw [if_neg (by decide), if_neg (by decide)]]
  generalize dgt p0 (2 : Int32) = d2
  generalize dgt p0 (3 : Int32) = d3
  generalize dgt p0 (4 : Int32) = d4
  generalize dgt p0 (5 : Int32) = d5
  generalize dgt p0 (6 : Int32) = d6
  simp only [Int64.toInt32_add, Int64.toInt32_mul, Int32.toInt32_toInt64, show Int64.toInt32 0 = 0 from rfl, show Int64.toInt32 1 = 1 from rfl, show Int64.toInt32 10 = 10 from rfl, show Int64.toInt32 100 = 100 from rfl, show Int64.toInt32 1000 = 1000 from rfl, show Int64.toInt32 10000 = 10000 from rfl, show Int64.toInt32 100000 = 100000 from rfl, show Int64.toInt32 1000000 = 1000000 from rfl, show Int64.toInt32 10000000 = 10000000 from rfl, show Int64.toInt32 100000000 = 100000000 from rfl, show Int64.toInt32 1000000000 = 1000000000 from rfl]
  show numr [(48 + d2), (48 + d3), (48 + d4), (48 + d5), (48 + d6), u7, u8, u9] (2 : Int32) (7 : Int32) 0 = _
  rw [numr_c, if_pos (by decide)]
  rw [numr_c, if_pos (by decide)]
  rw [numr_c, if_pos (by decide)]
  rw [numr_c, if_pos (by decide)]
  rw [numr_c, if_pos (by decide)]
  rw [numr_c, if_neg (by decide)]
  grind
theorem ne_2_8 (p0 : Int64) (u0 u1 u2 u3 u4 u5 u6 u7 u8 u9 : Int32) : num10 [u0, u1, ((48 : Int32) + dgt p0 (2 : Int32)), ((48 : Int32) + dgt p0 (3 : Int32)), ((48 : Int32) + dgt p0 (4 : Int32)), ((48 : Int32) + dgt p0 (5 : Int32)), ((48 : Int32) + dgt p0 (6 : Int32)), ((48 : Int32) + dgt p0 (7 : Int32)), u8, u9] (2 : Int32) (8 : Int32) = ((((((((((tm p0 (0 : Int32) (2 : Int32) (8 : Int32)) + (tm p0 (1 : Int32) (2 : Int32) (8 : Int32))) + (tm p0 (2 : Int32) (2 : Int32) (8 : Int32))) + (tm p0 (3 : Int32) (2 : Int32) (8 : Int32))) + (tm p0 (4 : Int32) (2 : Int32) (8 : Int32))) + (tm p0 (5 : Int32) (2 : Int32) (8 : Int32))) + (tm p0 (6 : Int32) (2 : Int32) (8 : Int32))) + (tm p0 (7 : Int32) (2 : Int32) (8 : Int32))) + (tm p0 (8 : Int32) (2 : Int32) (8 : Int32))) + (tm p0 (9 : Int32) (2 : Int32) (8 : Int32))).toInt32 := by
  rw [show tm p0 (0 : Int32) (2 : Int32) (8 : Int32) = (0 : Int64) from if_pos (by decide)]
  rw [show tm p0 (1 : Int32) (2 : Int32) (8 : Int32) = (0 : Int64) from if_pos (by decide)]
  rw [show tm p0 (2 : Int32) (2 : Int32) (8 : Int32) = (dgt p0 (2 : Int32)).toInt64 * 100000 from by unfold tm; rw [if_neg (by decide), if_pos (by decide)]; rfl]
  rw [show tm p0 (3 : Int32) (2 : Int32) (8 : Int32) = (dgt p0 (3 : Int32)).toInt64 * 10000 from by unfold tm; rw [if_neg (by decide), if_pos (by decide)]; rfl]
  rw [show tm p0 (4 : Int32) (2 : Int32) (8 : Int32) = (dgt p0 (4 : Int32)).toInt64 * 1000 from by unfold tm; rw [if_neg (by decide), if_pos (by decide)]; rfl]
  rw [show tm p0 (5 : Int32) (2 : Int32) (8 : Int32) = (dgt p0 (5 : Int32)).toInt64 * 100 from by unfold tm; rw [if_neg (by decide), if_pos (by decide)]; rfl]
  rw [show tm p0 (6 : Int32) (2 : Int32) (8 : Int32) = (dgt p0 (6 : Int32)).toInt64 * 10 from by unfold tm; rw [if_neg (by decide), if_pos (by decide)]; rfl]
  rw [show tm p0 (7 : Int32) (2 : Int32) (8 : Int32) = (dgt p0 (7 : Int32)).toInt64 * 1 from by unfold tm; rw [if_neg (by decide), if_pos (by decide)]; rfl]
  rw [show tm p0 (8 : Int32) (2 : Int32) (8 : Int32) = (0 : Int64) from by unfold tm; rw [if_neg (by decide), if_neg (by decide)]]
  rw [show tm p0 (9 : Int32) (2 : Int32) (8 : Int32) = (0 : Int64) from by unfold tm; rw [if_neg (by decide), if_neg (by decide)]]
  generalize dgt p0 (2 : Int32) = d2
  generalize dgt p0 (3 : Int32) = d3
  generalize dgt p0 (4 : Int32) = d4
  generalize dgt p0 (5 : Int32) = d5
  generalize dgt p0 (6 : Int32) = d6
  generalize dgt p0 (7 : Int32) = d7
  simp only [Int64.toInt32_add, Int64.toInt32_mul, Int32.toInt32_toInt64, show Int64.toInt32 0 = 0 from rfl, show Int64.toInt32 1 = 1 from rfl, show Int64.toInt32 10 = 10 from rfl, show Int64.toInt32 100 = 100 from rfl, show Int64.toInt32 1000 = 1000 from rfl, show Int64.toInt32 10000 = 10000 from rfl, show Int64.toInt32 100000 = 100000 from rfl, show Int64.toInt32 1000000 = 1000000 from rfl, show Int64.toInt32 10000000 = 10000000 from rfl, show Int64.toInt32 100000000 = 100000000 from rfl, show Int64.toInt32 1000000000 = 1000000000 from rfl]
  show numr [(48 + d2), (48 + d3), (48 + d4), (48 + d5), (48 + d6), (48 + d7), u8, u9] (2 : Int32) (8 : Int32) 0 = _
  rw [numr_c, if_pos (by decide)]
  rw [numr_c, if_pos (by decide)]
  rw [numr_c, if_pos (by decide)]
  rw [numr_c, if_pos (by decide)]
  rw [numr_c, if_pos (by decide)]
  rw [numr_c, if_pos (by decide)]
  rw [numr_c, if_neg (by decide)]
  grind
theorem ne_2_9 (p0 : Int64) (u0 u1 u2 u3 u4 u5 u6 u7 u8 u9 : Int32) : num10 [u0, u1, ((48 : Int32) + dgt p0 (2 : Int32)), ((48 : Int32) + dgt p0 (3 : Int32)), ((48 : Int32) + dgt p0 (4 : Int32)), ((48 : Int32) + dgt p0 (5 : Int32)), ((48 : Int32) + dgt p0 (6 : Int32)), ((48 : Int32) + dgt p0 (7 : Int32)), ((48 : Int32) + dgt p0 (8 : Int32)), u9] (2 : Int32) (9 : Int32) = ((((((((((tm p0 (0 : Int32) (2 : Int32) (9 : Int32)) + (tm p0 (1 : Int32) (2 : Int32) (9 : Int32))) + (tm p0 (2 : Int32) (2 : Int32) (9 : Int32))) + (tm p0 (3 : Int32) (2 : Int32) (9 : Int32))) + (tm p0 (4 : Int32) (2 : Int32) (9 : Int32))) + (tm p0 (5 : Int32) (2 : Int32) (9 : Int32))) + (tm p0 (6 : Int32) (2 : Int32) (9 : Int32))) + (tm p0 (7 : Int32) (2 : Int32) (9 : Int32))) + (tm p0 (8 : Int32) (2 : Int32) (9 : Int32))) + (tm p0 (9 : Int32) (2 : Int32) (9 : Int32))).toInt32 := by
  rw [show tm p0 (0 : Int32) (2 : Int32) (9 : Int32) = (0 : Int64) from if_pos (by decide)]
  rw [show tm p0 (1 : Int32) (2 : Int32) (9 : Int32) = (0 : Int64) from if_pos (by decide)]
  rw [show tm p0 (2 : Int32) (2 : Int32) (9 : Int32) = (dgt p0 (2 : Int32)).toInt64 * 1000000 from by unfold tm; rw [if_neg (by decide), if_pos (by decide)]; rfl]
  rw [show tm p0 (3 : Int32) (2 : Int32) (9 : Int32) = (dgt p0 (3 : Int32)).toInt64 * 100000 from by unfold tm; rw [if_neg (by decide), if_pos (by decide)]; rfl]
  rw [show tm p0 (4 : Int32) (2 : Int32) (9 : Int32) = (dgt p0 (4 : Int32)).toInt64 * 10000 from by unfold tm; rw [if_neg (by decide), if_pos (by decide)]; rfl]
  rw [show tm p0 (5 : Int32) (2 : Int32) (9 : Int32) = (dgt p0 (5 : Int32)).toInt64 * 1000 from by unfold tm; rw [if_neg (by decide), if_pos (by decide)]; rfl]
  rw [show tm p0 (6 : Int32) (2 : Int32) (9 : Int32) = (dgt p0 (6 : Int32)).toInt64 * 100 from by unfold tm; rw [if_neg (by decide), if_pos (by decide)]; rfl]
  rw [show tm p0 (7 : Int32) (2 : Int32) (9 : Int32) = (dgt p0 (7 : Int32)).toInt64 * 10 from by unfold tm; rw [if_neg (by decide), if_pos (by decide)]; rfl]
  rw [show tm p0 (8 : Int32) (2 : Int32) (9 : Int32) = (dgt p0 (8 : Int32)).toInt64 * 1 from by unfold tm; rw [if_neg (by decide), if_pos (by decide)]; rfl]
  rw [show tm p0 (9 : Int32) (2 : Int32) (9 : Int32) = (0 : Int64) from by unfold tm; rw [if_neg (by decide), if_neg (by decide)]]
  generalize dgt p0 (2 : Int32) = d2
  generalize dgt p0 (3 : Int32) = d3
  generalize dgt p0 (4 : Int32) = d4
  generalize dgt p0 (5 : Int32) = d5
  generalize dgt p0 (6 : Int32) = d6
  generalize dgt p0 (7 : Int32) = d7
  generalize dgt p0 (8 : Int32) = d8
  simp only [Int64.toInt32_add, Int64.toInt32_mul, Int32.toInt32_toInt64, show Int64.toInt32 0 = 0 from rfl, show Int64.toInt32 1 = 1 from rfl, show Int64.toInt32 10 = 10 from rfl, show Int64.toInt32 100 = 100 from rfl, show Int64.toInt32 1000 = 1000 from rfl, show Int64.toInt32 10000 = 10000 from rfl, show Int64.toInt32 100000 = 100000 from rfl, show Int64.toInt32 1000000 = 1000000 from rfl, show Int64.toInt32 10000000 = 10000000 from rfl, show Int64.toInt32 100000000 = 100000000 from rfl, show Int64.toInt32 1000000000 = 1000000000 from rfl]
  show numr [(48 + d2), (48 + d3), (48 + d4), (48 + d5), (48 + d6), (48 + d7), (48 + d8), u9] (2 : Int32) (9 : Int32) 0 = _
  rw [numr_c, if_pos (by decide)]
  rw [numr_c, if_pos (by decide)]
  rw [numr_c, if_pos (by decide)]
  rw [numr_c, if_pos (by decide)]
  rw [numr_c, if_pos (by decide)]
  rw [numr_c, if_pos (by decide)]
  rw [numr_c, if_pos (by decide)]
  rw [numr_c, if_neg (by decide)]
  grind
theorem ne_2_10 (p0 : Int64) (u0 u1 u2 u3 u4 u5 u6 u7 u8 u9 : Int32) : num10 [u0, u1, ((48 : Int32) + dgt p0 (2 : Int32)), ((48 : Int32) + dgt p0 (3 : Int32)), ((48 : Int32) + dgt p0 (4 : Int32)), ((48 : Int32) + dgt p0 (5 : Int32)), ((48 : Int32) + dgt p0 (6 : Int32)), ((48 : Int32) + dgt p0 (7 : Int32)), ((48 : Int32) + dgt p0 (8 : Int32)), ((48 : Int32) + dgt p0 (9 : Int32))] (2 : Int32) (10 : Int32) = ((((((((((tm p0 (0 : Int32) (2 : Int32) (10 : Int32)) + (tm p0 (1 : Int32) (2 : Int32) (10 : Int32))) + (tm p0 (2 : Int32) (2 : Int32) (10 : Int32))) + (tm p0 (3 : Int32) (2 : Int32) (10 : Int32))) + (tm p0 (4 : Int32) (2 : Int32) (10 : Int32))) + (tm p0 (5 : Int32) (2 : Int32) (10 : Int32))) + (tm p0 (6 : Int32) (2 : Int32) (10 : Int32))) + (tm p0 (7 : Int32) (2 : Int32) (10 : Int32))) + (tm p0 (8 : Int32) (2 : Int32) (10 : Int32))) + (tm p0 (9 : Int32) (2 : Int32) (10 : Int32))).toInt32 := by
  rw [show tm p0 (0 : Int32) (2 : Int32) (10 : Int32) = (0 : Int64) from if_pos (by decide)]
  rw [show tm p0 (1 : Int32) (2 : Int32) (10 : Int32) = (0 : Int64) from if_pos (by decide)]
  rw [show tm p0 (2 : Int32) (2 : Int32) (10 : Int32) = (dgt p0 (2 : Int32)).toInt64 * 10000000 from by unfold tm; rw [if_neg (by decide), if_pos (by decide)]; rfl]
  rw [show tm p0 (3 : Int32) (2 : Int32) (10 : Int32) = (dgt p0 (3 : Int32)).toInt64 * 1000000 from by unfold tm; rw [if_neg (by decide), if_pos (by decide)]; rfl]
  rw [show tm p0 (4 : Int32) (2 : Int32) (10 : Int32) = (dgt p0 (4 : Int32)).toInt64 * 100000 from by unfold tm; rw [if_neg (by decide), if_pos (by decide)]; rfl]
  rw [show tm p0 (5 : Int32) (2 : Int32) (10 : Int32) = (dgt p0 (5 : Int32)).toInt64 * 10000 from by unfold tm; rw [if_neg (by decide), if_pos (by decide)]; rfl]
  rw [show tm p0 (6 : Int32) (2 : Int32) (10 : Int32) = (dgt p0 (6 : Int32)).toInt64 * 1000 from by unfold tm; rw [if_neg (by decide), if_pos (by decide)]; rfl]
  rw [show tm p0 (7 : Int32) (2 : Int32) (10 : Int32) = (dgt p0 (7 : Int32)).toInt64 * 100 from by unfold tm; rw [if_neg (by decide), if_pos (by decide)]; rfl]
  rw [show tm p0 (8 : Int32) (2 : Int32) (10 : Int32) = (dgt p0 (8 : Int32)).toInt64 * 10 from by unfold tm; rw [if_neg (by decide), if_pos (by decide)]; rfl]
  rw [show tm p0 (9 : Int32) (2 : Int32) (10 : Int32) = (dgt p0 (9 : Int32)).toInt64 * 1 from by unfold tm; rw [if_neg (by decide), if_pos (by decide)]; rfl]
  generalize dgt p0 (2 : Int32) = d2
  generalize dgt p0 (3 : Int32) = d3
  generalize dgt p0 (4 : Int32) = d4
  generalize dgt p0 (5 : Int32) = d5
  generalize dgt p0 (6 : Int32) = d6
  generalize dgt p0 (7 : Int32) = d7
  generalize dgt p0 (8 : Int32) = d8
  generalize dgt p0 (9 : Int32) = d9
  simp only [Int64.toInt32_add, Int64.toInt32_mul, Int32.toInt32_toInt64, show Int64.toInt32 0 = 0 from rfl, show Int64.toInt32 1 = 1 from rfl, show Int64.toInt32 10 = 10 from rfl, show Int64.toInt32 100 = 100 from rfl, show Int64.toInt32 1000 = 1000 from rfl, show Int64.toInt32 10000 = 10000 from rfl, show Int64.toInt32 100000 = 100000 from rfl, show Int64.toInt32 1000000 = 1000000 from rfl, show Int64.toInt32 10000000 = 10000000 from rfl, show Int64.toInt32 100000000 = 100000000 from rfl, show Int64.toInt32 1000000000 = 1000000000 from rfl]
  show numr [(48 + d2), (48 + d3), (48 + d4), (48 + d5), (48 + d6), (48 + d7), (48 + d8), (48 + d9)] (2 : Int32) (10 : Int32) 0 = _
  rw [numr_c, if_pos (by decide)]
  rw [numr_c, if_pos (by decide)]
  rw [numr_c, if_pos (by decide)]
  rw [numr_c, if_pos (by decide)]
  rw [numr_c, if_pos (by decide)]
  rw [numr_c, if_pos (by decide)]
  rw [numr_c, if_pos (by decide)]
  rw [numr_c, if_pos (by decide)]
  unfold numr
  grind

theorem ne_3_3 (p0 : Int64) (u0 u1 u2 u3 u4 u5 u6 u7 u8 u9 : Int32) : num10 [u0, u1, u2, u3, u4, u5, u6, u7, u8, u9] (3 : Int32) (3 : Int32) = ((((((((((tm p0 (0 : Int32) (3 : Int32) (3 : Int32)) + (tm p0 (1 : Int32) (3 : Int32) (3 : Int32))) + (tm p0 (2 : Int32) (3 : Int32) (3 : Int32))) + (tm p0 (3 : Int32) (3 : Int32) (3 : Int32))) + (tm p0 (4 : Int32) (3 : Int32) (3 : Int32))) + (tm p0 (5 : Int32) (3 : Int32) (3 : Int32))) + (tm p0 (6 : Int32) (3 : Int32) (3 : Int32))) + (tm p0 (7 : Int32) (3 : Int32) (3 : Int32))) + (tm p0 (8 : Int32) (3 : Int32) (3 : Int32))) + (tm p0 (9 : Int32) (3 : Int32) (3 : Int32))).toInt32 := by
  rw [show tm p0 (0 : Int32) (3 : Int32) (3 : Int32) = (0 : Int64) from if_pos (by decide)]
  rw [show tm p0 (1 : Int32) (3 : Int32) (3 : Int32) = (0 : Int64) from if_pos (by decide)]
  rw [show tm p0 (2 : Int32) (3 : Int32) (3 : Int32) = (0 : Int64) from if_pos (by decide)]
  rw [show tm p0 (3 : Int32) (3 : Int32) (3 : Int32) = (0 : Int64) from by unfold tm; rw [if_neg (by decide), if_neg (by decide)]]
  rw [show tm p0 (4 : Int32) (3 : Int32) (3 : Int32) = (0 : Int64) from by unfold tm; rw [if_neg (by decide), if_neg (by decide)]]
  rw [show tm p0 (5 : Int32) (3 : Int32) (3 : Int32) = (0 : Int64) from by unfold tm; rw [if_neg (by decide), if_neg (by decide)]]
  rw [show tm p0 (6 : Int32) (3 : Int32) (3 : Int32) = (0 : Int64) from by unfold tm; rw [if_neg (by decide), if_neg (by decide)]]
  rw [show tm p0 (7 : Int32) (3 : Int32) (3 : Int32) = (0 : Int64) from by unfold tm; rw [if_neg (by decide), if_neg (by decide)]]
  rw [show tm p0 (8 : Int32) (3 : Int32) (3 : Int32) = (0 : Int64) from by unfold tm; rw [if_neg (by decide), if_neg (by decide)]]
  rw [show tm p0 (9 : Int32) (3 : Int32) (3 : Int32) = (0 : Int64) from by unfold tm; rw [if_neg (by decide), if_neg (by decide)]]
  simp only [Int64.toInt32_add, Int64.toInt32_mul, Int32.toInt32_toInt64, show Int64.toInt32 0 = 0 from rfl, show Int64.toInt32 1 = 1 from rfl, show Int64.toInt32 10 = 10 from rfl, show Int64.toInt32 100 = 100 from rfl, show Int64.toInt32 1000 = 1000 from rfl, show Int64.toInt32 10000 = 10000 from rfl, show Int64.toInt32 100000 = 100000 from rfl, show Int64.toInt32 1000000 = 1000000 from rfl, show Int64.toInt32 10000000 = 10000000 from rfl, show Int64.toInt32 100000000 = 100000000 from rfl, show Int64.toInt32 1000000000 = 1000000000 from rfl]
  show numr [u3, u4, u5, u6, u7, u8, u9] (3 : Int32) (3 : Int32) 0 = _
  rw [numr_c, if_neg (by decide)]
  grind
theorem ne_3_4 (p0 : Int64) (u0 u1 u2 u3 u4 u5 u6 u7 u8 u9 : Int32) : num10 [u0, u1, u2, ((48 : Int32) + dgt p0 (3 : Int32)), u4, u5, u6, u7, u8, u9] (3 : Int32) (4 : Int32) = ((((((((((tm p0 (0 : Int32) (3 : Int32) (4 : Int32)) + (tm p0 (1 : Int32) (3 : Int32) (4 : Int32))) + (tm p0 (2 : Int32) (3 : Int32) (4 : Int32))) + (tm p0 (3 : Int32) (3 : Int32) (4 : Int32))) + (tm p0 (4 : Int32) (3 : Int32) (4 : Int32))) + (tm p0 (5 : Int32) (3 : Int32) (4 : Int32))) + (tm p0 (6 : Int32) (3 : Int32) (4 : Int32))) + (tm p0 (7 : Int32) (3 : Int32) (4 : Int32))) + (tm p0 (8 : Int32) (3 : Int32) (4 : Int32))) + (tm p0 (9 : Int32) (3 : Int32) (4 : Int32))).toInt32 := by
  rw [show tm p0 (0 : Int32) (3 : Int32) (4 : Int32) = (0 : Int64) from if_pos (by decide)]
  rw [show tm p0 (1 : Int32) (3 : Int32) (4 : Int32) = (0 : Int64) from if_pos (by decide)]
  rw [show tm p0 (2 : Int32) (3 : Int32) (4 : Int32) = (0 : Int64) from if_pos (by decide)]
  rw [show tm p0 (3 : Int32) (3 : Int32) (4 : Int32) = (dgt p0 (3 : Int32)).toInt64 * 1 from by unfold tm; rw [if_neg (by decide), if_pos (by decide)]; rfl]
  rw [show tm p0 (4 : Int32) (3 : Int32) (4 : Int32) = (0 : Int64) from by unfold tm; rw [if_neg (by decide), if_neg (by decide)]]
  rw [show tm p0 (5 : Int32) (3 : Int32) (4 : Int32) = (0 : Int64) from by unfold tm; rw [if_neg (by decide), if_neg (by decide)]]
  rw [show tm p0 (6 : Int32) (3 : Int32) (4 : Int32) = (0 : Int64) from by unfold tm; rw [if_neg (by decide), if_neg (by decide)]]
  rw [show tm p0 (7 : Int32) (3 : Int32) (4 : Int32) = (0 : Int64) from by unfold tm; rw [if_neg (by decide), if_neg (by decide)]]
  rw [show tm p0 (8 : Int32) (3 : Int32) (4 : Int32) = (0 : Int64) from by unfold tm; rw [if_neg (by decide), if_neg (by decide)]]
  rw [show tm p0 (9 : Int32) (3 : Int32) (4 : Int32) = (0 : Int64) from by unfold tm; rw [if_neg (by decide), if_neg (by decide)]]
  generalize dgt p0 (3 : Int32) = d3
  simp only [Int64.toInt32_add, Int64.toInt32_mul, Int32.toInt32_toInt64, show Int64.toInt32 0 = 0 from rfl, show Int64.toInt32 1 = 1 from rfl, show Int64.toInt32 10 = 10 from rfl, show Int64.toInt32 100 = 100 from rfl, show Int64.toInt32 1000 = 1000 from rfl, show Int64.toInt32 10000 = 10000 from rfl, show Int64.toInt32 100000 = 100000 from rfl, show Int64.toInt32 1000000 = 1000000 from rfl, show Int64.toInt32 10000000 = 10000000 from rfl, show Int64.toInt32 100000000 = 100000000 from rfl, show Int64.toInt32 1000000000 = 1000000000 from rfl]
  show numr [(48 + d3), u4, u5, u6, u7, u8, u9] (3 : Int32) (4 : Int32) 0 = _
  rw [numr_c, if_pos (by decide)]
  rw [numr_c, if_neg (by decide)]
  grind
theorem ne_3_5 (p0 : Int64) (u0 u1 u2 u3 u4 u5 u6 u7 u8 u9 : Int32) : num10 [u0, u1, u2, ((48 : Int32) + dgt p0 (3 : Int32)), ((48 : Int32) + dgt p0 (4 : Int32)), u5, u6, u7, u8, u9] (3 : Int32) (5 : Int32) = ((((((((((tm p0 (0 : Int32) (3 : Int32) (5 : Int32)) + (tm p0 (1 : Int32) (3 : Int32) (5 : Int32))) + (tm p0 (2 : Int32) (3 : Int32) (5 : Int32))) + (tm p0 (3 : Int32) (3 : Int32) (5 : Int32))) + (tm p0 (4 : Int32) (3 : Int32) (5 : Int32))) + (tm p0 (5 : Int32) (3 : Int32) (5 : Int32))) + (tm p0 (6 : Int32) (3 : Int32) (5 : Int32))) + (tm p0 (7 : Int32) (3 : Int32) (5 : Int32))) + (tm p0 (8 : Int32) (3 : Int32) (5 : Int32))) + (tm p0 (9 : Int32) (3 : Int32) (5 : Int32))).toInt32 := by
  rw [show tm p0 (0 : Int32) (3 : Int32) (5 : Int32) = (0 : Int64) from if_pos (by decide)]
  rw [show tm p0 (1 : Int32) (3 : Int32) (5 : Int32) = (0 : Int64) from if_pos (by decide)]
  rw [show tm p0 (2 : Int32) (3 : Int32) (5 : Int32) = (0 : Int64) from if_pos (by decide)]
  rw [show tm p0 (3 : Int32) (3 : Int32) (5 : Int32) = (dgt p0 (3 : Int32)).toInt64 * 10 from by unfold tm; rw [if_neg (by decide), if_pos (by decide)]; rfl]
  rw [show tm p0 (4 : Int32) (3 : Int32) (5 : Int32) = (dgt p0 (4 : Int32)).toInt64 * 1 from by unfold tm; rw [if_neg (by decide), if_pos (by decide)]; rfl]
  rw [show tm p0 (5 : Int32) (3 : Int32) (5 : Int32) = (0 : Int64) from by unfold tm; rw [if_neg (by decide), if_neg (by decide)]]
  rw [show tm p0 (6 : Int32) (3 : Int32) (5 : Int32) = (0 : Int64) from by unfold tm; rw [if_neg (by decide), if_neg (by decide)]]
  rw [show tm p0 (7 : Int32) (3 : Int32) (5 : Int32) = (0 : Int64) from by unfold tm; rw [if_neg (by decide), if_neg (by decide)]]
  rw [show tm p0 (8 : Int32) (3 : Int32) (5 : Int32) = (0 : Int64) from by unfold tm; rw [if_neg (by decide), if_neg (by decide)]]
  rw [show tm p0 (9 : Int32) (3 : Int32) (5 : Int32) = (0 : Int64) from by unfold tm; rw [if_neg (by decide), if_neg (by decide)]]
  generalize dgt p0 (3 : Int32) = d3
  generalize dgt p0 (4 : Int32) = d4
  simp only [Int64.toInt32_add, Int64.toInt32_mul, Int32.toInt32_toInt64, show Int64.toInt32 0 = 0 from rfl, show Int64.toInt32 1 = 1 from rfl, show Int64.toInt32 10 = 10 from rfl, show Int64.toInt32 100 = 100 from rfl, show Int64.toInt32 1000 = 1000 from rfl, show Int64.toInt32 10000 = 10000 from rfl, show Int64.toInt32 100000 = 100000 from rfl, show Int64.toInt32 1000000 = 1000000 from rfl, show Int64.toInt32 10000000 = 10000000 from rfl, show Int64.toInt32 100000000 = 100000000 from rfl, show Int64.toInt32 1000000000 = 1000000000 from rfl]
  show numr [(48 + d3), (48 + d4), u5, u6, u7, u8, u9] (3 : Int32) (5 : Int32) 0 = _
  rw [numr_c, if_pos (by decide)]
  rw [numr_c, if_pos (by decide)]
  rw [numr_c, if_neg (by decide)]
  grind
theorem ne_3_6 (p0 : Int64) (u0 u1 u2 u3 u4 u5 u6 u7 u8 u9 : Int32) : num10 [u0, u1, u2, ((48 : Int32) + dgt p0 (3 : Int32)), ((48 : Int32) + dgt p0 (4 : Int32)), ((48 : Int32) + dgt p0 (5 : Int32)), u6, u7, u8, u9] (3 : Int32) (6 : Int32) = ((((((((((tm p0 (0 : Int32) (3 : Int32) (6 : Int32)) + (tm p0 (1 : Int32) (3 : Int32) (6 : Int32))) + (tm p0 (2 : Int32) (3 : Int32) (6 : Int32))) + (tm p0 (3 : Int32) (3 : Int32) (6 : Int32))) + (tm p0 (4 : Int32) (3 : Int32) (6 : Int32))) + (tm p0 (5 : Int32) (3 : Int32) (6 : Int32))) + (tm p0 (6 : Int32) (3 : Int32) (6 : Int32))) + (tm p0 (7 : Int32) (3 : Int32) (6 : Int32))) + (tm p0 (8 : Int32) (3 : Int32) (6 : Int32))) + (tm p0 (9 : Int32) (3 : Int32) (6 : Int32))).toInt32 := by
  rw [show tm p0 (0 : Int32) (3 : Int32) (6 : Int32) = (0 : Int64) from if_pos (by decide)]
  rw [show tm p0 (1 : Int32) (3 : Int32) (6 : Int32) = (0 : Int64) from if_pos (by decide)]
  rw [show tm p0 (2 : Int32) (3 : Int32) (6 : Int32) = (0 : Int64) from if_pos (by decide)]
  rw [show tm p0 (3 : Int32) (3 : Int32) (6 : Int32) = (dgt p0 (3 : Int32)).toInt64 * 100 from by unfold tm; rw [if_neg (by decide), if_pos (by decide)]; rfl]
  rw [show tm p0 (4 : Int32) (3 : Int32) (6 : Int32) = (dgt p0 (4 : Int32)).toInt64 * 10 from by unfold tm; rw [if_neg (by decide), if_pos (by decide)]; rfl]
  rw [show tm p0 (5 : Int32) (3 : Int32) (6 : Int32) = (dgt p0 (5 : Int32)).toInt64 * 1 from by unfold tm; rw [if_neg (by decide), if_pos (by decide)]; rfl]
  rw [show tm p0 (6 : Int32) (3 : Int32) (6 : Int32) = (0 : Int64) from by unfold tm; rw [if_neg (by decide), if_neg (by decide)]]
  rw [show tm p0 (7 : Int32) (3 : Int32) (6 : Int32) = (0 : Int64) from by unfold tm; rw [if_neg (by decide), if_neg (by decide)]]
  rw [show tm p0 (8 : Int32) (3 : Int32) (6 : Int32) = (0 : Int64) from by unfold tm; rw [if_neg (by decide), if_neg (by decide)]]
  rw [show tm p0 (9 : Int32) (3 : Int32) (6 : Int32) = (0 : Int64) from by unfold tm; rw [if_neg (by decide), if_neg (by decide)]]
  generalize dgt p0 (3 : Int32) = d3
  generalize dgt p0 (4 : Int32) = d4
  generalize dgt p0 (5 : Int32) = d5
  simp only [Int64.toInt32_add, Int64.toInt32_mul, Int32.toInt32_toInt64, show Int64.toInt32 0 = 0 from rfl, show Int64.toInt32 1 = 1 from rfl, show Int64.toInt32 10 = 10 from rfl, show Int64.toInt32 100 = 100 from rfl, show Int64.toInt32 1000 = 1000 from rfl, show Int64.toInt32 10000 = 10000 from rfl, show Int64.toInt32 100000 = 100000 from rfl, show Int64.toInt32 1000000 = 1000000 from rfl, show Int64.toInt32 10000000 = 10000000 from rfl, show Int64.toInt32 100000000 = 100000000 from rfl, show Int64.toInt32 1000000000 = 1000000000 from rfl]
  show numr [(48 + d3), (48 + d4), (48 + d5), u6, u7, u8, u9] (3 : Int32) (6 : Int32) 0 = _
  rw [numr_c, if_pos (by decide)]
  rw [numr_c, if_pos (by decide)]
  rw [numr_c, if_pos (by decide)]
  rw [numr_c, if_neg (by decide)]
  grind
theorem ne_3_7 (p0 : Int64) (u0 u1 u2 u3 u4 u5 u6 u7 u8 u9 : Int32) : num10 [u0, u1, u2, ((48 : Int32) + dgt p0 (3 : Int32)), ((48 : Int32) + dgt p0 (4 : Int32)), ((48 : Int32) + dgt p0 (5 : Int32)), ((48 : Int32) + dgt p0 (6 : Int32)), u7, u8, u9] (3 : Int32) (7 : Int32) = ((((((((((tm p0 (0 : Int32) (3 : Int32) (7 : Int32)) + (tm p0 (1 : Int32) (3 : Int32) (7 : Int32))) + (tm p0 (2 : Int32) (3 : Int32) (7 : Int32))) + (tm p0 (3 : Int32) (3 : Int32) (7 : Int32))) + (tm p0 (4 : Int32) (3 : Int32) (7 : Int32))) + (tm p0 (5 : Int32) (3 : Int32) (7 : Int32))) + (tm p0 (6 : Int32) (3 : Int32) (7 : Int32))) + (tm p0 (7 : Int32) (3 : Int32) (7 : Int32))) + (tm p0 (8 : Int32) (3 : Int32) (7 : Int32))) + (tm p0 (9 : Int32) (3 : Int32) (7 : Int32))).toInt32 := by
  rw [show tm p0 (0 : Int32) (3 : Int32) (7 : Int32) = (0 : Int64) from if_pos (by decide)]
  rw [show tm p0 (1 : Int32) (3 : Int32) (7 : Int32) = (0 : Int64) from if_pos (by decide)]
  rw [show tm p0 (2 : Int32) (3 : Int32) (7 : Int32) = (0 : Int64) from if_pos (by decide)]
  rw [show tm p0 (3 : Int32) (3 : Int32) (7 : Int32) = (dgt p0 (3 : Int32)).toInt64 * 1000 from by unfold tm; rw [if_neg (by decide), if_pos (by decide)]; rfl]
  rw [show tm p0 (4 : Int32) (3 : Int32) (7 : Int32) = (dgt p0 (4 : Int32)).toInt64 * 100 from by unfold tm; rw [if_neg (by decide), if_pos (by decide)]; rfl]
  rw [show tm p0 (5 : Int32) (3 : Int32) (7 : Int32) = (dgt p0 (5 : Int32)).toInt64 * 10 from by unfold tm; rw [if_neg (by decide), if_pos (by decide)]; rfl]
  rw [show tm p0 (6 : Int32) (3 : Int32) (7 : Int32) = (dgt p0 (6 : Int32)).toInt64 * 1 from by unfold tm; rw [if_neg (by decide), if_pos (by decide)]; rfl]
  rw [show tm p0 (7 : Int32) (3 : Int32) (7 : Int32) = (0 : Int64) from by unfold tm; rw [if_neg (by decide), if_neg (by decide)]]
  rw [show tm p0 (8 : Int32) (3 : Int32) (7 : Int32) = (0 : Int64) from by unfold tm; rw [if_neg (by decide), if_neg (by decide)]]
  rw [show tm p0 (9 : Int32) (3 : Int32) (7 : Int32) = (0 : Int64) from by unfold tm; rw [if_neg (by decide), if_neg (by decide)]]
  generalize dgt p0 (3 : Int32) = d3
  generalize dgt p0 (4 : Int32) = d4
  generalize dgt p0 (5 : Int32) = d5
  generalize dgt p0 (6 : Int32) = d6
  simp only [Int64.toInt32_add, Int64.toInt32_mul, Int32.toInt32_toInt64, show Int64.toInt32 0 = 0 from rfl, show Int64.toInt32 1 = 1 from rfl, show Int64.toInt32 10 = 10 from rfl, show Int64.toInt32 100 = 100 from rfl, show Int64.toInt32 1000 = 1000 from rfl, show Int64.toInt32 10000 = 10000 from rfl, show Int64.toInt32 100000 = 100000 from rfl, show Int64.toInt32 1000000 = 1000000 from rfl, show Int64.toInt32 10000000 = 10000000 from rfl, show Int64.toInt32 100000000 = 100000000 from rfl, show Int64.toInt32 1000000000 = 1000000000 from rfl]
  show numr [(48 + d3), (48 + d4), (48 + d5), (48 + d6), u7, u8, u9] (3 : Int32) (7 : Int32) 0 = _
  rw [numr_c, if_pos (by decide)]
  rw [numr_c, if_pos (by decide)]
  rw [numr_c, if_pos (by decide)]
  rw [numr_c, if_pos (by decide)]
  rw [numr_c, if_neg (by decide)]
  grind
theorem ne_3_8 (p0 : Int64) (u0 u1 u2 u3 u4 u5 u6 u7 u8 u9 : Int32) : num10 [u0, u1, u2, ((48 : Int32) + dgt p0 (3 : Int32)), ((48 : Int32) + dgt p0 (4 : Int32)), ((48 : Int32) + dgt p0 (5 : Int32)), ((48 : Int32) + dgt p0 (6 : Int32)), ((48 : Int32) + dgt p0 (7 : Int32)), u8, u9] (3 : Int32) (8 : Int32) = ((((((((((tm p0 (0 : Int32) (3 : Int32) (8 : Int32)) + (tm p0 (1 : Int32) (3 : Int32) (8 : Int32))) + (tm p0 (2 : Int32) (3 : Int32) (8 : Int32))) + (tm p0 (3 : Int32) (3 : Int32) (8 : Int32))) + (tm p0 (4 : Int32) (3 : Int32) (8 : Int32))) + (tm p0 (5 : Int32) (3 : Int32) (8 : Int32))) + (tm p0 (6 : Int32) (3 : Int32) (8 : Int32))) + (tm p0 (7 : Int32) (3 : Int32) (8 : Int32))) + (tm p0 (8 : Int32) (3 : Int32) (8 : Int32))) + (tm p0 (9 : Int32) (3 : Int32) (8 : Int32))).toInt32 := by
  rw [show tm p0 (0 : Int32) (3 : Int32) (8 : Int32) = (0 : Int64) from if_pos (by decide)]
  rw [show tm p0 (1 : Int32) (3 : Int32) (8 : Int32) = (0 : Int64) from if_pos (by decide)]
  rw [show tm p0 (2 : Int32) (3 : Int32) (8 : Int32) = (0 : Int64) from if_pos (by decide)]
  rw [show tm p0 (3 : Int32) (3 : Int32) (8 : Int32) = (dgt p0 (3 : Int32)).toInt64 * 10000 from by unfold tm; rw [if_neg (by decide), if_pos (by decide)]; rfl]
  rw [show tm p0 (4 : Int32) (3 : Int32) (8 : Int32) = (dgt p0 (4 : Int32)).toInt64 * 1000 from by unfold tm; rw [if_neg (by decide), if_pos (by decide)]; rfl]
  rw [show tm p0 (5 : Int32) (3 : Int32) (8 : Int32) = (dgt p0 (5 : Int32)).toInt64 * 100 from by unfold tm; rw [if_neg (by decide), if_pos (by decide)]; rfl]
  rw [show tm p0 (6 : Int32) (3 : Int32) (8 : Int32) = (dgt p0 (6 : Int32)).toInt64 * 10 from by unfold tm; rw [if_neg (by decide), if_pos (by decide)]; rfl]
  rw [show tm p0 (7 : Int32) (3 : Int32) (8 : Int32) = (dgt p0 (7 : Int32)).toInt64 * 1 from by unfold tm; rw [if_neg (by decide), if_pos (by decide)]; rfl]
  rw [show tm p0 (8 : Int32) (3 : Int32) (8 : Int32) = (0 : Int64) from by unfold tm; rw [if_neg (by decide), if_neg (by decide)]]
  rw [show tm p0 (9 : Int32) (3 : Int32) (8 : Int32) = (0 : Int64) from by unfold tm; rw [if_neg (by decide), if_neg (by decide)]]
  generalize dgt p0 (3 : Int32) = d3
  generalize dgt p0 (4 : Int32) = d4
  generalize dgt p0 (5 : Int32) = d5
  generalize dgt p0 (6 : Int32) = d6
  generalize dgt p0 (7 : Int32) = d7
  simp only [Int64.toInt32_add, Int64.toInt32_mul, Int32.toInt32_toInt64, show Int64.toInt32 0 = 0 from rfl, show Int64.toInt32 1 = 1 from rfl, show Int64.toInt32 10 = 10 from rfl, show Int64.toInt32 100 = 100 from rfl, show Int64.toInt32 1000 = 1000 from rfl, show Int64.toInt32 10000 = 10000 from rfl, show Int64.toInt32 100000 = 100000 from rfl, show Int64.toInt32 1000000 = 1000000 from rfl, show Int64.toInt32 10000000 = 10000000 from rfl, show Int64.toInt32 100000000 = 100000000 from rfl, show Int64.toInt32 1000000000 = 1000000000 from rfl]
  show numr [(48 + d3), (48 + d4), (48 + d5), (48 + d6), (48 + d7), u8, u9] (3 : Int32) (8 : Int32) 0 = _
  rw [numr_c, if_pos (by decide)]
  rw [numr_c, if_pos (by decide)]
  rw [numr_c, if_pos (by decide)]
  rw [numr_c, if_pos (by decide)]
  rw [numr_c, if_pos (by decide)]
  rw [numr_c, if_neg (by decide)]
  grind
theorem ne_3_9 (p0 : Int64) (u0 u1 u2 u3 u4 u5 u6 u7 u8 u9 : Int32) : num10 [u0, u1, u2, ((48 : Int32) + dgt p0 (3 : Int32)), ((48 : Int32) + dgt p0 (4 : Int32)), ((48 : Int32) + dgt p0 (5 : Int32)), ((48 : Int32) + dgt p0 (6 : Int32)), ((48 : Int32) + dgt p0 (7 : Int32)), ((48 : Int32) + dgt p0 (8 : Int32)), u9] (3 : Int32) (9 : Int32) = ((((((((((tm p0 (0 : Int32) (3 : Int32) (9 : Int32)) + (tm p0 (1 : Int32) (3 : Int32) (9 : Int32))) + (tm p0 (2 : Int32) (3 : Int32) (9 : Int32))) + (tm p0 (3 : Int32) (3 : Int32) (9 : Int32))) + (tm p0 (4 : Int32) (3 : Int32) (9 : Int32))) + (tm p0 (5 : Int32) (3 : Int32) (9 : Int32))) + (tm p0 (6 : Int32) (3 : Int32) (9 : Int32))) + (tm p0 (7 : Int32) (3 : Int32) (9 : Int32))) + (tm p0 (8 : Int32) (3 : Int32) (9 : Int32))) + (tm p0 (9 : Int32) (3 : Int32) (9 : Int32))).toInt32 := by
  rw [show tm p0 (0 : Int32) (3 : Int32) (9 : Int32) = (0 : Int64) from if_pos (by decide)]
  rw [show tm p0 (1 : Int32) (3 : Int32) (9 : Int32) = (0 : Int64) from if_pos (by decide)]
  rw [show tm p0 (2 : Int32) (3 : Int32) (9 : Int32) = (0 : Int64) from if_pos (by decide)]
  rw [show tm p0 (3 : Int32) (3 : Int32) (9 : Int32) = (dgt p0 (3 : Int32)).toInt64 * 100000 from by unfold tm; rw [if_neg (by decide), if_pos (by decide)]; rfl]
  rw [show tm p0 (4 : Int32) (3 : Int32) (9 : Int32) = (dgt p0 (4 : Int32)).toInt64 * 10000 from by unfold tm; rw [if_neg (by decide), if_pos (by decide)]; rfl]
  rw [show tm p0 (5 : Int32) (3 : Int32) (9 : Int32) = (dgt p0 (5 : Int32)).toInt64 * 1000 from by unfold tm; rw [if_neg (by decide), if_pos (by decide)]; rfl]
  rw [show tm p0 (6 : Int32) (3 : Int32) (9 : Int32) = (dgt p0 (6 : Int32)).toInt64 * 100 from by unfold tm; rw [if_neg (by decide), if_pos (by decide)]; rfl]
  rw [show tm p0 (7 : Int32) (3 : Int32) (9 : Int32) = (dgt p0 (7 : Int32)).toInt64 * 10 from by unfold tm; rw [if_neg (by decide), if_pos (by decide)]; rfl]
  rw [show tm p0 (8 : Int32) (3 : Int32) (9 : Int32) = (dgt p0 (8 : Int32)).toInt64 * 1 from by unfold tm; rw [if_neg (by decide), if_pos (by decide)]; rfl]
  rw [show tm p0 (9 : Int32) (3 : Int32) (9 : Int32) = (0 : Int64) from by unfold tm; rw [if_neg (by decide), if_neg (by decide)]]
  generalize dgt p0 (3 : Int32) = d3
  generalize dgt p0 (4 : Int32) = d4
  generalize dgt p0 (5 : Int32) = d5
  generalize dgt p0 (6 : Int32) = d6
  generalize dgt p0 (7 : Int32) = d7
  generalize dgt p0 (8 : Int32) = d8
  simp only [Int64.toInt32_add, Int64.toInt32_mul, Int32.toInt32_toInt64, show Int64.toInt32 0 = 0 from rfl, show Int64.toInt32 1 = 1 from rfl, show Int64.toInt32 10 = 10 from rfl, show Int64.toInt32 100 = 100 from rfl, show Int64.toInt32 1000 = 1000 from rfl, show Int64.toInt32 10000 = 10000 from rfl, show Int64.toInt32 100000 = 100000 from rfl, show Int64.toInt32 1000000 = 1000000 from rfl, show Int64.toInt32 10000000 = 10000000 from rfl, show Int64.toInt32 100000000 = 100000000 from rfl, show Int64.toInt32 1000000000 = 1000000000 from rfl]
  show numr [(48 + d3), (48 + d4), (48 + d5), (48 + d6), (48 + d7), (48 + d8), u9] (3 : Int32) (9 : Int32) 0 = _
  rw [numr_c, if_pos (by decide)]
  rw [numr_c, if_pos (by decide)]
  rw [numr_c, if_pos (by decide)]
  rw [numr_c, if_pos (by decide)]
  rw [numr_c, if_pos (by decide)]
  rw [numr_c, if_pos (by decide)]
  rw [numr_c, if_neg (by decide)]
  grind
theorem ne_3_10 (p0 : Int64) (u0 u1 u2 u3 u4 u5 u6 u7 u8 u9 : Int32) : num10 [u0, u1, u2, ((48 : Int32) + dgt p0 (3 : Int32)), ((48 : Int32) + dgt p0 (4 : Int32)), ((48 : Int32) + dgt p0 (5 : Int32)), ((48 : Int32) + dgt p0 (6 : Int32)), ((48 : Int32) + dgt p0 (7 : Int32)), ((48 : Int32) + dgt p0 (8 : Int32)), ((48 : Int32) + dgt p0 (9 : Int32))] (3 : Int32) (10 : Int32) = ((((((((((tm p0 (0 : Int32) (3 : Int32) (10 : Int32)) + (tm p0 (1 : Int32) (3 : Int32) (10 : Int32))) + (tm p0 (2 : Int32) (3 : Int32) (10 : Int32))) + (tm p0 (3 : Int32) (3 : Int32) (10 : Int32))) + (tm p0 (4 : Int32) (3 : Int32) (10 : Int32))) + (tm p0 (5 : Int32) (3 : Int32) (10 : Int32))) + (tm p0 (6 : Int32) (3 : Int32) (10 : Int32))) + (tm p0 (7 : Int32) (3 : Int32) (10 : Int32))) + (tm p0 (8 : Int32) (3 : Int32) (10 : Int32))) + (tm p0 (9 : Int32) (3 : Int32) (10 : Int32))).toInt32 := by
  rw [show tm p0 (0 : Int32) (3 : Int32) (10 : Int32) = (0 : Int64) from if_pos (by decide)]
  rw [show tm p0 (1 : Int32) (3 : Int32) (10 : Int32) = (0 : Int64) from if_pos (by decide)]
  rw [show tm p0 (2 : Int32) (3 : Int32) (10 : Int32) = (0 : Int64) from if_pos (by decide)]
  rw [show tm p0 (3 : Int32) (3 : Int32) (10 : Int32) = (dgt p0 (3 : Int32)).toInt64 * 1000000 from by unfold tm; rw [if_neg (by decide), if_pos (by decide)]; rfl]
  rw [show tm p0 (4 : Int32) (3 : Int32) (10 : Int32) = (dgt p0 (4 : Int32)).toInt64 * 100000 from by unfold tm; rw [if_neg (by decide), if_pos (by decide)]; rfl]
  rw [show tm p0 (5 : Int32) (3 : Int32) (10 : Int32) = (dgt p0 (5 : Int32)).toInt64 * 10000 from by unfold tm; rw [if_neg (by decide), if_pos (by decide)]; rfl]
  rw [show tm p0 (6 : Int32) (3 : Int32) (10 : Int32) = (dgt p0 (6 : Int32)).toInt64 * 1000 from by unfold tm; rw [if_neg (by decide), if_pos (by decide)]; rfl]
  rw [show tm p0 (7 : Int32) (3 : Int32) (10 : Int32) = (dgt p0 (7 : Int32)).toInt64 * 100 from by unfold tm; rw [if_neg (by decide), if_pos (by decide)]; rfl]
  rw [show tm p0 (8 : Int32) (3 : Int32) (10 : Int32) = (dgt p0 (8 : Int32)).toInt64 * 10 from by unfold tm; rw [if_neg (by decide), if_pos (by decide)]; rfl]
  rw [show tm p0 (9 : Int32) (3 : Int32) (10 : Int32) = (dgt p0 (9 : Int32)).toInt64 * 1 from by unfold tm; rw [if_neg (by decide), if_pos (by decide)]; rfl]
  generalize dgt p0 (3 : Int32) = d3
  generalize dgt p0 (4 : Int32) = d4
  generalize dgt p0 (5 : Int32) = d5
  generalize dgt p0 (6 : Int32) = d6
  generalize dgt p0 (7 : Int32) = d7
  generalize dgt p0 (8 : Int32) = d8
  generalize dgt p0 (9 : Int32) = d9
  simp only [Int64.toInt32_add, Int64.toInt32_mul, Int32.toInt32_toInt64, show Int64.toInt32 0 = 0 from rfl, show Int64.toInt32 1 = 1 from rfl, show Int64.toInt32 10 = 10 from rfl, show Int64.toInt32 100 = 100 from rfl, show Int64.toInt32 1000 = 1000 from rfl, show Int64.toInt32 10000 = 10000 from rfl, show Int64.toInt32 100000 = 100000 from rfl, show Int64.toInt32 1000000 = 1000000 from rfl, show Int64.toInt32 10000000 = 10000000 from rfl, show Int64.toInt32 100000000 = 100000000 from rfl, show Int64.toInt32 1000000000 = 1000000000 from rfl]
  show numr [(48 + d3), (48 + d4), (48 + d5), (48 + d6), (48 + d7), (48 + d8), (48 + d9)] (3 : Int32) (10 : Int32) 0 = _
  rw [numr_c, if_pos (by decide)]
  rw [numr_c, if_pos (by decide)]
  rw [numr_c, if_pos (by decide)]
  rw [numr_c, if_pos (by decide)]
  rw [numr_c, if_pos (by decide)]
  rw [numr_c, if_pos (by decide)]
  rw [numr_c, if_pos (by decide)]
  unfold numr
  grind

theorem ne_4_4 (p0 : Int64) (u0 u1 u2 u3 u4 u5 u6 u7 u8 u9 : Int32) : num10 [u0, u1, u2, u3, u4, u5, u6, u7, u8, u9] (4 : Int32) (4 : Int32) = ((((((((((tm p0 (0 : Int32) (4 : Int32) (4 : Int32)) + (tm p0 (1 : Int32) (4 : Int32) (4 : Int32))) + (tm p0 (2 : Int32) (4 : Int32) (4 : Int32))) + (tm p0 (3 : Int32) (4 : Int32) (4 : Int32))) + (tm p0 (4 : Int32) (4 : Int32) (4 : Int32))) + (tm p0 (5 : Int32) (4 : Int32) (4 : Int32))) + (tm p0 (6 : Int32) (4 : Int32) (4 : Int32))) + (tm p0 (7 : Int32) (4 : Int32) (4 : Int32))) + (tm p0 (8 : Int32) (4 : Int32) (4 : Int32))) + (tm p0 (9 : Int32) (4 : Int32) (4 : Int32))).toInt32 := by
  rw [show tm p0 (0 : Int32) (4 : Int32) (4 : Int32) = (0 : Int64) from if_pos (by decide)]
  rw [show tm p0 (1 : Int32) (4 : Int32) (4 : Int32) = (0 : Int64) from if_pos (by decide)]
  rw [show tm p0 (2 : Int32) (4 : Int32) (4 : Int32) = (0 : Int64) from if_pos (by decide)]
  rw [show tm p0 (3 : Int32) (4 : Int32) (4 : Int32) = (0 : Int64) from if_pos (by decide)]
  rw [show tm p0 (4 : Int32) (4 : Int32) (4 : Int32) = (0 : Int64) from by unfold tm; rw [if_neg (by decide), if_neg (by decide)]]
  rw [show tm p0 (5 : Int32) (4 : Int32) (4 : Int32) = (0 : Int64) from by unfold tm; rw [if_neg (by decide), if_neg (by decide)]]
  rw [show tm p0 (6 : Int32) (4 : Int32) (4 : Int32) = (0 : Int64) from by unfold tm; rw [if_neg (by decide), if_neg (by decide)]]
  rw [show tm p0 (7 : Int32) (4 : Int32) (4 : Int32) = (0 : Int64) from by unfold tm; rw [if_neg (by decide), if_neg (by decide)]]
  rw [show tm p0 (8 : Int32) (4 : Int32) (4 : Int32) = (0 : Int64) from by unfold tm; rw [if_neg (by decide), if_neg (by decide)]]
  rw [show tm p0 (9 : Int32) (4 : Int32) (4 : Int32) = (0 : Int64) from by unfold tm; rw [if_neg (by decide), if_neg (by decide)]]
  simp only [Int64.toInt32_add, Int64.toInt32_mul, Int32.toInt32_toInt64, show Int64.toInt32 0 = 0 from rfl, show Int64.toInt32 1 = 1 from rfl, show Int64.toInt32 10 = 10 from rfl, show Int64.toInt32 100 = 100 from rfl, show Int64.toInt32 1000 = 1000 from rfl, show Int64.toInt32 10000 = 10000 from rfl, show Int64.toInt32 100000 = 100000 from rfl, show Int64.toInt32 1000000 = 1000000 from rfl, show Int64.toInt32 10000000 = 10000000 from rfl, show Int64.toInt32 100000000 = 100000000 from rfl, show Int64.toInt32 1000000000 = 1000000000 from rfl]
  show numr [u4, u5, u6, u7, u8, u9] (4 : Int32) (4 : Int32) 0 = _
  rw [numr_c, if_neg (by decide)]
  grind
theorem ne_4_5 (p0 : Int64) (u0 u1 u2 u3 u4 u5 u6 u7 u8 u9 : Int32) : num10 [u0, u1, u2, u3, ((48 : Int32) + dgt p0 (4 : Int32)), u5, u6, u7, u8, u9] (4 : Int32) (5 : Int32) = ((((((((((tm p0 (0 : Int32) (4 : Int32) (5 : Int32)) + (tm p0 (1 : Int32) (4 : Int32) (5 : Int32))) + (tm p0 (2 : Int32) (4 : Int32) (5 : Int32))) + (tm p0 (3 : Int32) (4 : Int32) (5 : Int32))) + (tm p0 (4 : Int32) (4 : Int32) (5 : Int32))) + (tm p0 (5 : Int32) (4 : Int32) (5 : Int32))) + (tm p0 (6 : Int32) (4 : Int32) (5 : Int32))) + (tm p0 (7 : Int32) (4 : Int32) (5 : Int32))) + (tm p0 (8 : Int32) (4 : Int32) (5 : Int32))) + (tm p0 (9 : Int32) (4 : Int32) (5 : Int32))).toInt32 := by
  rw [show tm p0 (0 : Int32) (4 : Int32) (5 : Int32) = (0 : Int64) from if_pos (by decide)]
  rw [show tm p0 (1 : Int32) (4 : Int32) (5 : Int32) = (0 : Int64) from if_pos (by decide)]
  rw [show tm p0 (2 : Int32) (4 : Int32) (5 : Int32) = (0 : Int64) from if_pos (by decide)]
  rw [show tm p0 (3 : Int32) (4 : Int32) (5 : Int32) = (0 : Int64) from if_pos (by decide)]
  rw [show tm p0 (4 : Int32) (4 : Int32) (5 : Int32) = (dgt p0 (4 : Int32)).toInt64 * 1 from by unfold tm; rw [if_neg (by decide), if_pos (by decide)]; rfl]
  rw [show tm p0 (5 : Int32) (4 : Int32) (5 : Int32) = (0 : Int64) from by unfold tm; rw [if_neg (by decide), if_neg (by decide)]]
  rw [show tm p0 (6 : Int32) (4 : Int32) (5 : Int32) = (0 : Int64) from by unfold tm; rw [if_neg (by decide), if_neg (by decide)]]
  rw [show tm p0 (7 : Int32) (4 : Int32) (5 : Int32) = (0 : Int64) from by unfold tm; rw [if_neg (by decide), if_neg (by decide)]]
  rw [show tm p0 (8 : Int32) (4 : Int32) (5 : Int32) = (0 : Int64) from by unfold tm; rw [if_neg (by decide), if_neg (by decide)]]
  rw [show tm p0 (9 : Int32) (4 : Int32) (5 : Int32) = (0 : Int64) from by unfold tm; rw [if_neg (by decide), if_neg (by decide)]]
  generalize dgt p0 (4 : Int32) = d4
  simp only [Int64.toInt32_add, Int64.toInt32_mul, Int32.toInt32_toInt64, show Int64.toInt32 0 = 0 from rfl, show Int64.toInt32 1 = 1 from rfl, show Int64.toInt32 10 = 10 from rfl, show Int64.toInt32 100 = 100 from rfl, show Int64.toInt32 1000 = 1000 from rfl, show Int64.toInt32 10000 = 10000 from rfl, show Int64.toInt32 100000 = 100000 from rfl, show Int64.toInt32 1000000 = 1000000 from rfl, show Int64.toInt32 10000000 = 10000000 from rfl, show Int64.toInt32 100000000 = 100000000 from rfl, show Int64.toInt32 1000000000 = 1000000000 from rfl]
  show numr [(48 + d4), u5, u6, u7, u8, u9] (4 : Int32) (5 : Int32) 0 = _
  rw [numr_c, if_pos (by decide)]
  rw [numr_c, if_neg (by decide)]
  grind
theorem ne_4_6 (p0 : Int64) (u0 u1 u2 u3 u4 u5 u6 u7 u8 u9 : Int32) : num10 [u0, u1, u2, u3, ((48 : Int32) + dgt p0 (4 : Int32)), ((48 : Int32) + dgt p0 (5 : Int32)), u6, u7, u8, u9] (4 : Int32) (6 : Int32) = ((((((((((tm p0 (0 : Int32) (4 : Int32) (6 : Int32)) + (tm p0 (1 : Int32) (4 : Int32) (6 : Int32))) + (tm p0 (2 : Int32) (4 : Int32) (6 : Int32))) + (tm p0 (3 : Int32) (4 : Int32) (6 : Int32))) + (tm p0 (4 : Int32) (4 : Int32) (6 : Int32))) + (tm p0 (5 : Int32) (4 : Int32) (6 : Int32))) + (tm p0 (6 : Int32) (4 : Int32) (6 : Int32))) + (tm p0 (7 : Int32) (4 : Int32) (6 : Int32))) + (tm p0 (8 : Int32) (4 : Int32) (6 : Int32))) + (tm p0 (9 : Int32) (4 : Int32) (6 : Int32))).toInt32 := by
  rw [show tm p0 (0 : Int32) (4 : Int32) (6 : Int32) = (0 : Int64) from if_pos (by decide)]
  rw [show tm p0 (1 : Int32) (4 : Int32) (6 : Int32) = (0 : Int64) from if_pos (by decide)]
  rw [show tm p0 (2 : Int32) (4 : Int32) (6 : Int32) = (0 : Int64) from if_pos (by decide)]
  rw [show tm p0 (3 : Int32) (4 : Int32) (6 : Int32) = (0 : Int64) from if_pos (by decide)]
  rw [show tm p0 (4 : Int32) (4 : Int32) (6 : Int32) = (dgt p0 (4 : Int32)).toInt64 * 10 from by unfold tm; rw [if_neg (by decide), if_pos (by decide)]; rfl]
  rw [show tm p0 (5 : Int32) (4 : Int32) (6 : Int32) = (dgt p0 (5 : Int32)).toInt64 * 1 from by unfold tm; rw [if_neg (by decide), if_pos (by decide)]; rfl]
  rw [show tm p0 (6 : Int32) (4 : Int32) (6 : Int32) = (0 : Int64) from by unfold tm; rw [if_neg (by decide), if_neg (by decide)]]
  rw [show tm p0 (7 : Int32) (4 : Int32) (6 : Int32) = (0 : Int64) from by unfold tm; rw [if_neg (by decide), if_neg (by decide)]]
  rw [show tm p0 (8 : Int32) (4 : Int32) (6 : Int32) = (0 : Int64) from by unfold tm; rw [if_neg (by decide), if_neg (by decide)]]
  rw [show tm p0 (9 : Int32) (4 : Int32) (6 : Int32) = (0 : Int64) from by unfold tm; rw [if_neg (by decide), if_neg (by decide)]]
  generalize dgt p0 (4 : Int32) = d4
  generalize dgt p0 (5 : Int32) = d5
  simp only [Int64.toInt32_add, Int64.toInt32_mul, Int32.toInt32_toInt64, show Int64.toInt32 0 = 0 from rfl, show Int64.toInt32 1 = 1 from rfl, show Int64.toInt32 10 = 10 from rfl, show Int64.toInt32 100 = 100 from rfl, show Int64.toInt32 1000 = 1000 from rfl, show Int64.toInt32 10000 = 10000 from rfl, show Int64.toInt32 100000 = 100000 from rfl, show Int64.toInt32 1000000 = 1000000 from rfl, show Int64.toInt32 10000000 = 10000000 from rfl, show Int64.toInt32 100000000 = 100000000 from rfl, show Int64.toInt32 1000000000 = 1000000000 from rfl]
  show numr [(48 + d4), (48 + d5), u6, u7, u8, u9] (4 : Int32) (6 : Int32) 0 = _
  rw [numr_c, if_pos (by decide)]
  rw [numr_c, if_pos (by decide)]
  rw [numr_c, if_neg (by decide)]
  grind
theorem ne_4_7 (p0 : Int64) (u0 u1 u2 u3 u4 u5 u6 u7 u8 u9 : Int32) : num10 [u0, u1, u2, u3, ((48 : Int32) + dgt p0 (4 : Int32)), ((48 : Int32) + dgt p0 (5 : Int32)), ((48 : Int32) + dgt p0 (6 : Int32)), u7, u8, u9] (4 : Int32) (7 : Int32) = ((((((((((tm p0 (0 : Int32) (4 : Int32) (7 : Int32)) + (tm p0 (1 : Int32) (4 : Int32) (7 : Int32))) + (tm p0 (2 : Int32) (4 : Int32) (7 : Int32))) + (tm p0 (3 : Int32) (4 : Int32) (7 : Int32))) + (tm p0 (4 : Int32) (4 : Int32) (7 : Int32))) + (tm p0 (5 : Int32) (4 : Int32) (7 : Int32))) + (tm p0 (6 : Int32) (4 : Int32) (7 : Int32))) + (tm p0 (7 : Int32) (4 : Int32) (7 : Int32))) + (tm p0 (8 : Int32) (4 : Int32) (7 : Int32))) + (tm p0 (9 : Int32) (4 : Int32) (7 : Int32))).toInt32 := by
  rw [show tm p0 (0 : Int32) (4 : Int32) (7 : Int32) = (0 : Int64) from if_pos (by decide)]
  rw [show tm p0 (1 : Int32) (4 : Int32) (7 : Int32) = (0 : Int64) from if_pos (by decide)]
  rw [show tm p0 (2 : Int32) (4 : Int32) (7 : Int32) = (0 : Int64) from if_pos (by decide)]
  rw [show tm p0 (3 : Int32) (4 : Int32) (7 : Int32) = (0 : Int64) from if_pos (by decide)]
  rw [show tm p0 (4 : Int32) (4 : Int32) (7 : Int32) = (dgt p0 (4 : Int32)).toInt64 * 100 from by unfold tm; rw [if_neg (by decide), if_pos (by decide)]; rfl]
  rw [show tm p0 (5 : Int32) (4 : Int32) (7 : Int32) = (dgt p0 (5 : Int32)).toInt64 * 10 from by unfold tm; rw [if_neg (by decide), if_pos (by decide)]; rfl]
  rw [show tm p0 (6 : Int32) (4 : Int32) (7 : Int32) = (dgt p0 (6 : Int32)).toInt64 * 1 from by unfold tm; rw [if_neg (by decide), if_pos (by decide)]; rfl]
  rw [show tm p0 (7 : Int32) (4 : Int32) (7 : Int32) = (0 : Int64) from by unfold tm; rw [if_neg (by decide), if_neg (by decide)]]
  rw [show tm p0 (8 : Int32) (4 : Int32) (7 : Int32) = (0 : Int64) from by unfold tm; rw [if_neg (by decide), if_neg (by decide)]]
  rw [show tm p0 (9 : Int32) (4 : Int32) (7 : Int32) = (0 : Int64) from by unfold tm; rw [if_neg (by decide), if_neg (by decide)]]
  generalize dgt p0 (4 : Int32) = d4
  generalize dgt p0 (5 : Int32) = d5
  generalize dgt p0 (6 : Int32) = d6
  simp only [Int64.toInt32_add, Int64.toInt32_mul, Int32.toInt32_toInt64, show Int64.toInt32 0 = 0 from rfl, show Int64.toInt32 1 = 1 from rfl, show Int64.toInt32 10 = 10 from rfl, show Int64.toInt32 100 = 100 from rfl, show Int64.toInt32 1000 = 1000 from rfl, show Int64.toInt32 10000 = 10000 from rfl, show Int64.toInt32 100000 = 100000 from rfl, show Int64.toInt32 1000000 = 1000000 from rfl, show Int64.toInt32 10000000 = 10000000 from rfl, show Int64.toInt32 100000000 = 100000000 from rfl, show Int64.toInt32 1000000000 = 1000000000 from rfl]
  show numr [(48 + d4), (48 + d5), (48 + d6), u7, u8, u9] (4 : Int32) (7 : Int32) 0 = _
  rw [numr_c, if_pos (by decide)]
  rw [numr_c, if_pos (by decide)]
  rw [numr_c, if_pos (by decide)]
  rw [numr_c, if_neg (by decide)]
  grind
theorem ne_4_8 (p0 : Int64) (u0 u1 u2 u3 u4 u5 u6 u7 u8 u9 : Int32) : num10 [u0, u1, u2, u3, ((48 : Int32) + dgt p0 (4 : Int32)), ((48 : Int32) + dgt p0 (5 : Int32)), ((48 : Int32) + dgt p0 (6 : Int32)), ((48 : Int32) + dgt p0 (7 : Int32)), u8, u9] (4 : Int32) (8 : Int32) = ((((((((((tm p0 (0 : Int32) (4 : Int32) (8 : Int32)) + (tm p0 (1 : Int32) (4 : Int32) (8 : Int32))) + (tm p0 (2 : Int32) (4 : Int32) (8 : Int32))) + (tm p0 (3 : Int32) (4 : Int32) (8 : Int32))) + (tm p0 (4 : Int32) (4 : Int32) (8 : Int32))) + (tm p0 (5 : Int32) (4 : Int32) (8 : Int32))) + (tm p0 (6 : Int32) (4 : Int32) (8 : Int32))) + (tm p0 (7 : Int32) (4 : Int32) (8 : Int32))) + (tm p0 (8 : Int32) (4 : Int32) (8 : Int32))) + (tm p0 (9 : Int32) (4 : Int32) (8 : Int32))).toInt32 := by
  rw [show tm p0 (0 : Int32) (4 : Int32) (8 : Int32) = (0 : Int64) from if_pos (by decide)]
  rw [show tm p0 (1 : Int32) (4 : Int32) (8 : Int32) = (0 : Int64) from if_pos (by decide)]
  rw [show tm p0 (2 : Int32) (4 : Int32) (8 : Int32) = (0 : Int64) from if_pos (by decide)]
  rw [show tm p0 (3 : Int32) (4 : Int32) (8 : Int32) = (0 : Int64) from if_pos (by decide)]
  rw [show tm p0 (4 : Int32) (4 : Int32) (8 : Int32) = (dgt p0 (4 : Int32)).toInt64 * 1000 from by unfold tm; rw [if_neg (by decide), if_pos (by decide)]; rfl]
  rw [show tm p0 (5 : Int32) (4 : Int32) (8 : Int32) = (dgt p0 (5 : Int32)).toInt64 * 100 from by unfold tm; rw [if_neg (by decide), if_pos (by decide)]; rfl]
  rw [show tm p0 (6 : Int32) (4 : Int32) (8 : Int32) = (dgt p0 (6 : Int32)).toInt64 * 10 from by unfold tm; rw [if_neg (by decide), if_pos (by decide)]; rfl]
  rw [show tm p0 (7 : Int32) (4 : Int32) (8 : Int32) = (dgt p0 (7 : Int32)).toInt64 * 1 from by unfold tm; rw [if_neg (by decide), if_pos (by decide)]; rfl]
  rw [show tm p0 (8 : Int32) (4 : Int32) (8 : Int32) = (0 : Int64) from by unfold tm; rw [if_neg (by decide), if_neg (by decide)]]
  rw [show tm p0 (9 : Int32) (4 : Int32) (8 : Int32) = (0 : Int64) from by unfold tm; rw [if_neg (by decide), if_neg (by decide)]]
  generalize dgt p0 (4 : Int32) = d4
  generalize dgt p0 (5 : Int32) = d5
  generalize dgt p0 (6 : Int32) = d6
  generalize dgt p0 (7 : Int32) = d7
  simp only [Int64.toInt32_add, Int64.toInt32_mul, Int32.toInt32_toInt64, show Int64.toInt32 0 = 0 from rfl, show Int64.toInt32 1 = 1 from rfl, show Int64.toInt32 10 = 10 from rfl, show Int64.toInt32 100 = 100 from rfl, show Int64.toInt32 1000 = 1000 from rfl, show Int64.toInt32 10000 = 10000 from rfl, show Int64.toInt32 100000 = 100000 from rfl, show Int64.toInt32 1000000 = 1000000 from rfl, show Int64.toInt32 10000000 = 10000000 from rfl, show Int64.toInt32 100000000 = 100000000 from rfl, show Int64.toInt32 1000000000 = 1000000000 from rfl]
  show numr [(48 + d4), (48 + d5), (48 + d6), (48 + d7), u8, u9] (4 : Int32) (8 : Int32) 0 = _
  rw [numr_c, if_pos (by decide)]
  rw [numr_c, if_pos (by decide)]
  rw [numr_c, if_pos (by decide)]
  rw [numr_c, if_pos (by decide)]
  rw [numr_c, if_neg (by decide)]
  grind
theorem ne_4_9 (p0 : Int64) (u0 u1 u2 u3 u4 u5 u6 u7 u8 u9 : Int32) : num10 [u0, u1, u2, u3, ((48 : Int32) + dgt p0 (4 : Int32)), ((48 : Int32) + dgt p0 (5 : Int32)), ((48 : Int32) + dgt p0 (6 : Int32)), ((48 : Int32) + dgt p0 (7 : Int32)), ((48 : Int32) + dgt p0 (8 : Int32)), u9] (4 : Int32) (9 : Int32) = ((((((((((tm p0 (0 : Int32) (4 : Int32) (9 : Int32)) + (tm p0 (1 : Int32) (4 : Int32) (9 : Int32))) + (tm p0 (2 : Int32) (4 : Int32) (9 : Int32))) + (tm p0 (3 : Int32) (4 : Int32) (9 : Int32))) + (tm p0 (4 : Int32) (4 : Int32) (9 : Int32))) + (tm p0 (5 : Int32) (4 : Int32) (9 : Int32))) + (tm p0 (6 : Int32) (4 : Int32) (9 : Int32))) + (tm p0 (7 : Int32) (4 : Int32) (9 : Int32))) + (tm p0 (8 : Int32) (4 : Int32) (9 : Int32))) + (tm p0 (9 : Int32) (4 : Int32) (9 : Int32))).toInt32 := by
  rw [show tm p0 (0 : Int32) (4 : Int32) (9 : Int32) = (0 : Int64) from if_pos (by decide)]
  rw [show tm p0 (1 : Int32) (4 : Int32) (9 : Int32) = (0 : Int64) from if_pos (by decide)]
  rw [show tm p0 (2 : Int32) (4 : Int32) (9 : Int32) = (0 : Int64) from if_pos (by decide)]
  rw [show tm p0 (3 : Int32) (4 : Int32) (9 : Int32) = (0 : Int64) from if_pos (by decide)]
  rw [show tm p0 (4 : Int32) (4 : Int32) (9 : Int32) = (dgt p0 (4 : Int32)).toInt64 * 10000 from by unfold tm; rw [if_neg (by decide), if_pos (by decide)]; rfl]
  rw [show tm p0 (5 : Int32) (4 : Int32) (9 : Int32) = (dgt p0 (5 : Int32)).toInt64 * 1000 from by unfold tm; rw [if_neg (by decide), if_pos (by decide)]; rfl]
  rw [show tm p0 (6 : Int32) (4 : Int32) (9 : Int32) = (dgt p0 (6 : Int32)).toInt64 * 100 from by unfold tm; rw [if_neg (by decide), if_pos (by decide)]; rfl]
  rw [show tm p0 (7 : Int32) (4 : Int32) (9 : Int32) = (dgt p0 (7 : Int32)).toInt64 * 10 from by unfold tm; rw [if_neg (by decide), if_pos (by decide)]; rfl]
  rw [show tm p0 (8 : Int32) (4 : Int32) (9 : Int32) = (dgt p0 (8 : Int32)).toInt64 * 1 from by unfold tm; rw [if_neg (by decide), if_pos (by decide)]; rfl]
  rw [show tm p0 (9 : Int32) (4 : Int32) (9 : Int32) = (0 : Int64) from by unfold tm; rw [if_neg (by decide), if_neg (by decide)]]
  generalize dgt p0 (4 : Int32) = d4
  generalize dgt p0 (5 : Int32) = d5
  generalize dgt p0 (6 : Int32) = d6
  generalize dgt p0 (7 : Int32) = d7
  generalize dgt p0 (8 : Int32) = d8
  simp only [Int64.toInt32_add, Int64.toInt32_mul, Int32.toInt32_toInt64, show Int64.toInt32 0 = 0 from rfl, show Int64.toInt32 1 = 1 from rfl, show Int64.toInt32 10 = 10 from rfl, show Int64.toInt32 100 = 100 from rfl, show Int64.toInt32 1000 = 1000 from rfl, show Int64.toInt32 10000 = 10000 from rfl, show Int64.toInt32 100000 = 100000 from rfl, show Int64.toInt32 1000000 = 1000000 from rfl, show Int64.toInt32 10000000 = 10000000 from rfl, show Int64.toInt32 100000000 = 100000000 from rfl, show Int64.toInt32 1000000000 = 1000000000 from rfl]
  show numr [(48 + d4), (48 + d5), (48 + d6), (48 + d7), (48 + d8), u9] (4 : Int32) (9 : Int32) 0 = _
  rw [numr_c, if_pos (by decide)]
  rw [numr_c, if_pos (by decide)]
  rw [numr_c, if_pos (by decide)]
  rw [numr_c, if_pos (by decide)]
  rw [numr_c, if_pos (by decide)]
  rw [numr_c, if_neg (by decide)]
  grind
theorem ne_4_10 (p0 : Int64) (u0 u1 u2 u3 u4 u5 u6 u7 u8 u9 : Int32) : num10 [u0, u1, u2, u3, ((48 : Int32) + dgt p0 (4 : Int32)), ((48 : Int32) + dgt p0 (5 : Int32)), ((48 : Int32) + dgt p0 (6 : Int32)), ((48 : Int32) + dgt p0 (7 : Int32)), ((48 : Int32) + dgt p0 (8 : Int32)), ((48 : Int32) + dgt p0 (9 : Int32))] (4 : Int32) (10 : Int32) = ((((((((((tm p0 (0 : Int32) (4 : Int32) (10 : Int32)) + (tm p0 (1 : Int32) (4 : Int32) (10 : Int32))) + (tm p0 (2 : Int32) (4 : Int32) (10 : Int32))) + (tm p0 (3 : Int32) (4 : Int32) (10 : Int32))) + (tm p0 (4 : Int32) (4 : Int32) (10 : Int32))) + (tm p0 (5 : Int32) (4 : Int32) (10 : Int32))) + (tm p0 (6 : Int32) (4 : Int32) (10 : Int32))) + (tm p0 (7 : Int32) (4 : Int32) (10 : Int32))) + (tm p0 (8 : Int32) (4 : Int32) (10 : Int32))) + (tm p0 (9 : Int32) (4 : Int32) (10 : Int32))).toInt32 := by
  rw [show tm p0 (0 : Int32) (4 : Int32) (10 : Int32) = (0 : Int64) from if_pos (by decide)]
  rw [show tm p0 (1 : Int32) (4 : Int32) (10 : Int32) = (0 : Int64) from if_pos (by decide)]
  rw [show tm p0 (2 : Int32) (4 : Int32) (10 : Int32) = (0 : Int64) from if_pos (by decide)]
  rw [show tm p0 (3 : Int32) (4 : Int32) (10 : Int32) = (0 : Int64) from if_pos (by decide)]
  rw [show tm p0 (4 : Int32) (4 : Int32) (10 : Int32) = (dgt p0 (4 : Int32)).toInt64 * 100000 from by unfold tm; rw [if_neg (by decide), if_pos (by decide)]; rfl]
  rw [show tm p0 (5 : Int32) (4 : Int32) (10 : Int32) = (dgt p0 (5 : Int32)).toInt64 * 10000 from by unfold tm; rw [if_neg (by decide), if_pos (by decide)]; rfl]
  rw [show tm p0 (6 : Int32) (4 : Int32) (10 : Int32) = (dgt p0 (6 : Int32)).toInt64 * 1000 from by unfold tm; rw [if_neg (by decide), if_pos (by decide)]; rfl]
  rw [show tm p0 (7 : Int32) (4 : Int32) (10 : Int32) = (dgt p0 (7 : Int32)).toInt64 * 100 from by unfold tm; rw [if_neg (by decide), if_pos (by decide)]; rfl]
  rw [show tm p0 (8 : Int32) (4 : Int32) (10 : Int32) = (dgt p0 (8 : Int32)).toInt64 * 10 from by unfold tm; rw [if_neg (by decide), if_pos (by decide)]; rfl]
  rw [show tm p0 (9 : Int32) (4 : Int32) (10 : Int32) = (dgt p0 (9 : Int32)).toInt64 * 1 from by unfold tm; rw [if_neg (by decide), if_pos (by decide)]; rfl]
  generalize dgt p0 (4 : Int32) = d4
  generalize dgt p0 (5 : Int32) = d5
  generalize dgt p0 (6 : Int32) = d6
  generalize dgt p0 (7 : Int32) = d7
  generalize dgt p0 (8 : Int32) = d8
  generalize dgt p0 (9 : Int32) = d9
  simp only [Int64.toInt32_add, Int64.toInt32_mul, Int32.toInt32_toInt64, show Int64.toInt32 0 = 0 from rfl, show Int64.toInt32 1 = 1 from rfl, show Int64.toInt32 10 = 10 from rfl, show Int64.toInt32 100 = 100 from rfl, show Int64.toInt32 1000 = 1000 from rfl, show Int64.toInt32 10000 = 10000 from rfl, show Int64.toInt32 100000 = 100000 from rfl, show Int64.toInt32 1000000 = 1000000 from rfl, show Int64.toInt32 10000000 = 10000000 from rfl, show Int64.toInt32 100000000 = 100000000 from rfl, show Int64.toInt32 1000000000 = 1000000000 from rfl]
  show numr [(48 + d4), (48 + d5), (48 + d6), (48 + d7), (48 + d8), (48 + d9)] (4 : Int32) (10 : Int32) 0 = _
  rw [numr_c, if_pos (by decide)]
  rw [numr_c, if_pos (by decide)]
  rw [numr_c, if_pos (by decide)]
  rw [numr_c, if_pos (by decide)]
  rw [numr_c, if_pos (by decide)]
  rw [numr_c, if_pos (by decide)]
  unfold numr
  grind

theorem ne_5_5 (p0 : Int64) (u0 u1 u2 u3 u4 u5 u6 u7 u8 u9 : Int32) : num10 [u0, u1, u2, u3, u4, u5, u6, u7, u8, u9] (5 : Int32) (5 : Int32) = ((((((((((tm p0 (0 : Int32) (5 : Int32) (5 : Int32)) + (tm p0 (1 : Int32) (5 : Int32) (5 : Int32))) + (tm p0 (2 : Int32) (5 : Int32) (5 : Int32))) + (tm p0 (3 : Int32) (5 : Int32) (5 : Int32))) + (tm p0 (4 : Int32) (5 : Int32) (5 : Int32))) + (tm p0 (5 : Int32) (5 : Int32) (5 : Int32))) + (tm p0 (6 : Int32) (5 : Int32) (5 : Int32))) + (tm p0 (7 : Int32) (5 : Int32) (5 : Int32))) + (tm p0 (8 : Int32) (5 : Int32) (5 : Int32))) + (tm p0 (9 : Int32) (5 : Int32) (5 : Int32))).toInt32 := by
  rw [show tm p0 (0 : Int32) (5 : Int32) (5 : Int32) = (0 : Int64) from if_pos (by decide)]
  rw [show tm p0 (1 : Int32) (5 : Int32) (5 : Int32) = (0 : Int64) from if_pos (by decide)]
  rw [show tm p0 (2 : Int32) (5 : Int32) (5 : Int32) = (0 : Int64) from if_pos (by decide)]
  rw [show tm p0 (3 : Int32) (5 : Int32) (5 : Int32) = (0 : Int64) from if_pos (by decide)]
  rw [show tm p0 (4 : Int32) (5 : Int32) (5 : Int32) = (0 : Int64) from if_pos (by decide)]
  rw [show tm p0 (5 : Int32) (5 : Int32) (5 : Int32) = (0 : Int64) from by unfold tm; rw [if_neg (by decide), if_neg (by decide)]]
  rw [show tm p0 (6 : Int32) (5 : Int32) (5 : Int32) = (0 : Int64) from by unfold tm; rw [if_neg (by decide), if_neg (by decide)]]
  rw [show tm p0 (7 : Int32) (5 : Int32) (5 : Int32) = (0 : Int64) from by unfold tm; rw [if_neg (by decide), if_neg (by decide)]]
  rw [show tm p0 (8 : Int32) (5 : Int32) (5 : Int32) = (0 : Int64) from by unfold tm; rw [if_neg (by decide), if_neg (by decide)]]
  rw [show tm p0 (9 : Int32) (5 : Int32) (5 : Int32) = (0 : Int64) from by unfold tm; rw [if_neg (by decide), if_neg (by decide)]]
  simp only [Int64.toInt32_add, Int64.toInt32_mul, Int32.toInt32_toInt64, show Int64.toInt32 0 = 0 from rfl, show Int64.toInt32 1 = 1 from rfl, show Int64.toInt32 10 = 10 from rfl, show Int64.toInt32 100 = 100 from rfl, show Int64.toInt32 1000 = 1000 from rfl, show Int64.toInt32 10000 = 10000 from rfl, show Int64.toInt32 100000 = 100000 from rfl, show Int64.toInt32 1000000 = 1000000 from rfl, show Int64.toInt32 10000000 = 10000000 from rfl, show Int64.toInt32 100000000 = 100000000 from rfl, show Int64.toInt32 1000000000 = 1000000000 from rfl]
  show numr [u5, u6, u7, u8, u9] (5 : Int32) (5 : Int32) 0 = _
  rw [numr_c, if_neg (by decide)]
  grind
theorem ne_5_6 (p0 : Int64) (u0 u1 u2 u3 u4 u5 u6 u7 u8 u9 : Int32) : num10 [u0, u1, u2, u3, u4, ((48 : Int32) + dgt p0 (5 : Int32)), u6, u7, u8, u9] (5 : Int32) (6 : Int32) = ((((((((((tm p0 (0 : Int32) (5 : Int32) (6 : Int32)) + (tm p0 (1 : Int32) (5 : Int32) (6 : Int32))) + (tm p0 (2 : Int32) (5 : Int32) (6 : Int32))) + (tm p0 (3 : Int32) (5 : Int32) (6 : Int32))) + (tm p0 (4 : Int32) (5 : Int32) (6 : Int32))) + (tm p0 (5 : Int32) (5 : Int32) (6 : Int32))) + (tm p0 (6 : Int32) (5 : Int32) (6 : Int32))) + (tm p0 (7 : Int32) (5 : Int32) (6 : Int32))) + (tm p0 (8 : Int32) (5 : Int32) (6 : Int32))) + (tm p0 (9 : Int32) (5 : Int32) (6 : Int32))).toInt32 := by
  rw [show tm p0 (0 : Int32) (5 : Int32) (6 : Int32) = (0 : Int64) from if_pos (by decide)]
  rw [show tm p0 (1 : Int32) (5 : Int32) (6 : Int32) = (0 : Int64) from if_pos (by decide)]
  rw [show tm p0 (2 : Int32) (5 : Int32) (6 : Int32) = (0 : Int64) from if_pos (by decide)]
  rw [show tm p0 (3 : Int32) (5 : Int32) (6 : Int32) = (0 : Int64) from if_pos (by decide)]
  rw [show tm p0 (4 : Int32) (5 : Int32) (6 : Int32) = (0 : Int64) from if_pos (by decide)]
  rw [show tm p0 (5 : Int32) (5 : Int32) (6 : Int32) = (dgt p0 (5 : Int32)).toInt64 * 1 from by unfold tm; rw [if_neg (by decide), if_pos (by decide)]; rfl]
  rw [show tm p0 (6 : Int32) (5 : Int32) (6 : Int32) = (0 : Int64) from by unfold tm; rw [if_neg (by decide), if_neg (by decide)]]
  rw [show tm p0 (7 : Int32) (5 : Int32) (6 : Int32) = (0 : Int64) from by unfold tm; rw [if_neg (by decide), if_neg (by decide)]]
  rw [show tm p0 (8 : Int32) (5 : Int32) (6 : Int32) = (0 : Int64) from by unfold tm; rw [if_neg (by decide), if_neg (by decide)]]
  rw [show tm p0 (9 : Int32) (5 : Int32) (6 : Int32) = (0 : Int64) from by unfold tm; rw [if_neg (by decide), if_neg (by decide)]]
  generalize dgt p0 (5 : Int32) = d5
  simp only [Int64.toInt32_add, Int64.toInt32_mul, Int32.toInt32_toInt64, show Int64.toInt32 0 = 0 from rfl, show Int64.toInt32 1 = 1 from rfl, show Int64.toInt32 10 = 10 from rfl, show Int64.toInt32 100 = 100 from rfl, show Int64.toInt32 1000 = 1000 from rfl, show Int64.toInt32 10000 = 10000 from rfl, show Int64.toInt32 100000 = 100000 from rfl, show Int64.toInt32 1000000 = 1000000 from rfl, show Int64.toInt32 10000000 = 10000000 from rfl, show Int64.toInt32 100000000 = 100000000 from rfl, show Int64.toInt32 1000000000 = 1000000000 from rfl]
  show numr [(48 + d5), u6, u7, u8, u9] (5 : Int32) (6 : Int32) 0 = _
  rw [numr_c, if_pos (by decide)]
  rw [numr_c, if_neg (by decide)]
  grind
theorem ne_5_7 (p0 : Int64) (u0 u1 u2 u3 u4 u5 u6 u7 u8 u9 : Int32) : num10 [u0, u1, u2, u3, u4, ((48 : Int32) + dgt p0 (5 : Int32)), ((48 : Int32) + dgt p0 (6 : Int32)), u7, u8, u9] (5 : Int32) (7 : Int32) = ((((((((((tm p0 (0 : Int32) (5 : Int32) (7 : Int32)) + (tm p0 (1 : Int32) (5 : Int32) (7 : Int32))) + (tm p0 (2 : Int32) (5 : Int32) (7 : Int32))) + (tm p0 (3 : Int32) (5 : Int32) (7 : Int32))) + (tm p0 (4 : Int32) (5 : Int32) (7 : Int32))) + (tm p0 (5 : Int32) (5 : Int32) (7 : Int32))) + (tm p0 (6 : Int32) (5 : Int32) (7 : Int32))) + (tm p0 (7 : Int32) (5 : Int32) (7 : Int32))) + (tm p0 (8 : Int32) (5 : Int32) (7 : Int32))) + (tm p0 (9 : Int32) (5 : Int32) (7 : Int32))).toInt32 := by
  rw [show tm p0 (0 : Int32) (5 : Int32) (7 : Int32) = (0 : Int64) from if_pos (by decide)]
  rw [show tm p0 (1 : Int32) (5 : Int32) (7 : Int32) = (0 : Int64) from if_pos (by decide)]
  rw [show tm p0 (2 : Int32) (5 : Int32) (7 : Int32) = (0 : Int64) from if_pos (by decide)]
  rw [show tm p0 (3 : Int32) (5 : Int32) (7 : Int32) = (0 : Int64) from if_pos (by decide)]
  rw [show tm p0 (4 : Int32) (5 : Int32) (7 : Int32) = (0 : Int64) from if_pos (by decide)]
  rw [show tm p0 (5 : Int32) (5 : Int32) (7 : Int32) = (dgt p0 (5 : Int32)).toInt64 * 10 from by unfold tm; rw [if_neg (by decide), if_pos (by decide)]; rfl]
  rw [show tm p0 (6 : Int32) (5 : Int32) (7 : Int32) = (dgt p0 (6 : Int32)).toInt64 * 1 from by unfold tm; rw [if_neg (by decide), if_pos (by decide)]; rfl]
  rw [show tm p0 (7 : Int32) (5 : Int32) (7 : Int32) = (0 : Int64) from by unfold tm; rw [if_neg (by decide), if_neg (by decide)]]
  rw [show tm p0 (8 : Int32) (5 : Int32) (7 : Int32) = (0 : Int64) from by unfold tm; rw [if_neg (by decide), if_neg (by decide)]]
  rw [show tm p0 (9 : Int32) (5 : Int32) (7 : Int32) = (0 : Int64) from by unfold tm; rw [if_neg (by decide), if_neg (by decide)]]
  generalize dgt p0 (5 : Int32) = d5
  generalize dgt p0 (6 : Int32) = d6
  simp only [Int64.toInt32_add, Int64.toInt32_mul, Int32.toInt32_toInt64, show Int64.toInt32 0 = 0 from rfl, show Int64.toInt32 1 = 1 from rfl, show Int64.toInt32 10 = 10 from rfl, show Int64.toInt32 100 = 100 from rfl, show Int64.toInt32 1000 = 1000 from rfl, show Int64.toInt32 10000 = 10000 from rfl, show Int64.toInt32 100000 = 100000 from rfl, show Int64.toInt32 1000000 = 1000000 from rfl, show Int64.toInt32 10000000 = 10000000 from rfl, show Int64.toInt32 100000000 = 100000000 from rfl, show Int64.toInt32 1000000000 = 1000000000 from rfl]
  show numr [(48 + d5), (48 + d6), u7, u8, u9] (5 : Int32) (7 : Int32) 0 = _
  rw [numr_c, if_pos (by decide)]
  rw [numr_c, if_pos (by decide)]
  rw [numr_c, if_neg (by decide)]
  grind
theorem ne_5_8 (p0 : Int64) (u0 u1 u2 u3 u4 u5 u6 u7 u8 u9 : Int32) : num10 [u0, u1, u2, u3, u4, ((48 : Int32) + dgt p0 (5 : Int32)), ((48 : Int32) + dgt p0 (6 : Int32)), ((48 : Int32) + dgt p0 (7 : Int32)), u8, u9] (5 : Int32) (8 : Int32) = ((((((((((tm p0 (0 : Int32) (5 : Int32) (8 : Int32)) + (tm p0 (1 : Int32) (5 : Int32) (8 : Int32))) + (tm p0 (2 : Int32) (5 : Int32) (8 : Int32))) + (tm p0 (3 : Int32) (5 : Int32) (8 : Int32))) + (tm p0 (4 : Int32) (5 : Int32) (8 : Int32))) + (tm p0 (5 : Int32) (5 : Int32) (8 : Int32))) + (tm p0 (6 : Int32) (5 : Int32) (8 : Int32))) + (tm p0 (7 : Int32) (5 : Int32) (8 : Int32))) + (tm p0 (8 : Int32) (5 : Int32) (8 : Int32))) + (tm p0 (9 : Int32) (5 : Int32) (8 : Int32))).toInt32 := by
  rw [show tm p0 (0 : Int32) (5 : Int32) (8 : Int32) = (0 : Int64) from if_pos (by decide)]
  rw [show tm p0 (1 : Int32) (5 : Int32) (8 : Int32) = (0 : Int64) from if_pos (by decide)]
  rw [show tm p0 (2 : Int32) (5 : Int32) (8 : Int32) = (0 : Int64) from if_pos (by decide)]
  rw [show tm p0 (3 : Int32) (5 : Int32) (8 : Int32) = (0 : Int64) from if_pos (by decide)]
  rw [show tm p0 (4 : Int32) (5 : Int32) (8 : Int32) = (0 : Int64) from if_pos (by decide)]
  rw [show tm p0 (5 : Int32) (5 : Int32) (8 : Int32) = (dgt p0 (5 : Int32)).toInt64 * 100 from by unfold tm; rw [if_neg (by decide), if_pos (by decide)]; rfl]
  rw [show tm p0 (6 : Int32) (5 : Int32) (8 : Int32) = (dgt p0 (6 : Int32)).toInt64 * 10 from by unfold tm; rw [if_neg (by decide), if_pos (by decide)]; rfl]
  rw [show tm p0 (7 : Int32) (5 : Int32) (8 : Int32) = (dgt p0 (7 : Int32)).toInt64 * 1 from by unfold tm; rw [if_neg (by decide), if_pos (by decide)]; rfl]
  rw [show tm p0 (8 : Int32) (5 : Int32) (8 : Int32) = (0 : Int64) from by unfold tm; rw [if_neg (by decide), if_neg (by decide)]]
  rw [show tm p0 (9 : Int32) (5 : Int32) (8 : Int32) = (0 : Int64) from by unfold tm; rw [if_neg (by decide), if_neg (by decide)]]
  generalize dgt p0 (5 : Int32) = d5
  generalize dgt p0 (6 : Int32) = d6
  generalize dgt p0 (7 : Int32) = d7
  simp only [Int64.toInt32_add, Int64.toInt32_mul, Int32.toInt32_toInt64, show Int64.toInt32 0 = 0 from rfl, show Int64.toInt32 1 = 1 from rfl, show Int64.toInt32 10 = 10 from rfl, show Int64.toInt32 100 = 100 from rfl, show Int64.toInt32 1000 = 1000 from rfl, show Int64.toInt32 10000 = 10000 from rfl, show Int64.toInt32 100000 = 100000 from rfl, show Int64.toInt32 1000000 = 1000000 from rfl, show Int64.toInt32 10000000 = 10000000 from rfl, show Int64.toInt32 100000000 = 100000000 from rfl, show Int64.toInt32 1000000000 = 1000000000 from rfl]
  show numr [(48 + d5), (48 + d6), (48 + d7), u8, u9] (5 : Int32) (8 : Int32) 0 = _
  rw [numr_c, if_pos (by decide)]
  rw [numr_c, if_pos (by decide)]
  rw [numr_c, if_pos (by decide)]
  rw [numr_c, if_neg (by decide)]
  grind
theorem ne_5_9 (p0 : Int64) (u0 u1 u2 u3 u4 u5 u6 u7 u8 u9 : Int32) : num10 [u0, u1, u2, u3, u4, ((48 : Int32) + dgt p0 (5 : Int32)), ((48 : Int32) + dgt p0 (6 : Int32)), ((48 : Int32) + dgt p0 (7 : Int32)), ((48 : Int32) + dgt p0 (8 : Int32)), u9] (5 : Int32) (9 : Int32) = ((((((((((tm p0 (0 : Int32) (5 : Int32) (9 : Int32)) + (tm p0 (1 : Int32) (5 : Int32) (9 : Int32))) + (tm p0 (2 : Int32) (5 : Int32) (9 : Int32))) + (tm p0 (3 : Int32) (5 : Int32) (9 : Int32))) + (tm p0 (4 : Int32) (5 : Int32) (9 : Int32))) + (tm p0 (5 : Int32) (5 : Int32) (9 : Int32))) + (tm p0 (6 : Int32) (5 : Int32) (9 : Int32))) + (tm p0 (7 : Int32) (5 : Int32) (9 : Int32))) + (tm p0 (8 : Int32) (5 : Int32) (9 : Int32))) + (tm p0 (9 : Int32) (5 : Int32) (9 : Int32))).toInt32 := by
  rw [show tm p0 (0 : Int32) (5 : Int32) (9 : Int32) = (0 : Int64) from if_pos (by decide)]
  rw [show tm p0 (1 : Int32) (5 : Int32) (9 : Int32) = (0 : Int64) from if_pos (by decide)]
  rw [show tm p0 (2 : Int32) (5 : Int32) (9 : Int32) = (0 : Int64) from if_pos (by decide)]
  rw [show tm p0 (3 : Int32) (5 : Int32) (9 : Int32) = (0 : Int64) from if_pos (by decide)]
  rw [show tm p0 (4 : Int32) (5 : Int32) (9 : Int32) = (0 : Int64) from if_pos (by decide)]
  rw [show tm p0 (5 : Int32) (5 : Int32) (9 : Int32) = (dgt p0 (5 : Int32)).toInt64 * 1000 from by unfold tm; rw [if_neg (by decide), if_pos (by decide)]; rfl]
  rw [show tm p0 (6 : Int32) (5 : Int32) (9 : Int32) = (dgt p0 (6 : Int32)).toInt64 * 100 from by unfold tm; rw [if_neg (by decide), if_pos (by decide)]; rfl]
  rw [show tm p0 (7 : Int32) (5 : Int32) (9 : Int32) = (dgt p0 (7 : Int32)).toInt64 * 10 from by unfold tm; rw [if_neg (by decide), if_pos (by decide)]; rfl]
  rw [show tm p0 (8 : Int32) (5 : Int32) (9 : Int32) = (dgt p0 (8 : Int32)).toInt64 * 1 from by unfold tm; rw [if_neg (by decide), if_pos (by decide)]; rfl]
  rw [show tm p0 (9 : Int32) (5 : Int32) (9 : Int32) = (0 : Int64) from by unfold tm; rw [if_neg (by decide), if_neg (by decide)]]
  generalize dgt p0 (5 : Int32) = d5
  generalize dgt p0 (6 : Int32) = d6
  generalize dgt p0 (7 : Int32) = d7
  generalize dgt p0 (8 : Int32) = d8
  simp only [Int64.toInt32_add, Int64.toInt32_mul, Int32.toInt32_toInt64, show Int64.toInt32 0 = 0 from rfl, show Int64.toInt32 1 = 1 from rfl, show Int64.toInt32 10 = 10 from rfl, show Int64.toInt32 100 = 100 from rfl, show Int64.toInt32 1000 = 1000 from rfl, show Int64.toInt32 10000 = 10000 from rfl, show Int64.toInt32 100000 = 100000 from rfl, show Int64.toInt32 1000000 = 1000000 from rfl, show Int64.toInt32 10000000 = 10000000 from rfl, show Int64.toInt32 100000000 = 100000000 from rfl, show Int64.toInt32 1000000000 = 1000000000 from rfl]
  show numr [(48 + d5), (48 + d6), (48 + d7), (48 + d8), u9] (5 : Int32) (9 : Int32) 0 = _
  rw [numr_c, if_pos (by decide)]
  rw [numr_c, if_pos (by decide)]
  rw [numr_c, if_pos (by decide)]
  rw [numr_c, if_pos (by decide)]
  rw [numr_c, if_neg (by decide)]
  grind
theorem ne_5_10 (p0 : Int64) (u0 u1 u2 u3 u4 u5 u6 u7 u8 u9 : Int32) : num10 [u0, u1, u2, u3, u4, ((48 : Int32) + dgt p0 (5 : Int32)), ((48 : Int32) + dgt p0 (6 : Int32)), ((48 : Int32) + dgt p0 (7 : Int32)), ((48 : Int32) + dgt p0 (8 : Int32)), ((48 : Int32) + dgt p0 (9 : Int32))] (5 : Int32) (10 : Int32) = ((((((((((tm p0 (0 : Int32) (5 : Int32) (10 : Int32)) + (tm p0 (1 : Int32) (5 : Int32) (10 : Int32))) + (tm p0 (2 : Int32) (5 : Int32) (10 : Int32))) + (tm p0 (3 : Int32) (5 : Int32) (10 : Int32))) + (tm p0 (4 : Int32) (5 : Int32) (10 : Int32))) + (tm p0 (5 : Int32) (5 : Int32) (10 : Int32))) + (tm p0 (6 : Int32) (5 : Int32) (10 : Int32))) + (tm p0 (7 : Int32) (5 : Int32) (10 : Int32))) + (tm p0 (8 : Int32) (5 : Int32) (10 : Int32))) + (tm p0 (9 : Int32) (5 : Int32) (10 : Int32))).toInt32 := by
  rw [show tm p0 (0 : Int32) (5 : Int32) (10 : Int32) = (0 : Int64) from if_pos (by decide)]
  rw [show tm p0 (1 : Int32) (5 : Int32) (10 : Int32) = (0 : Int64) from if_pos (by decide)]
  rw [show tm p0 (2 : Int32) (5 : Int32) (10 : Int32) = (0 : Int64) from if_pos (by decide)]
  rw [show tm p0 (3 : Int32) (5 : Int32) (10 : Int32) = (0 : Int64) from if_pos (by decide)]
  rw [show tm p0 (4 : Int32) (5 : Int32) (10 : Int32) = (0 : Int64) from if_pos (by decide)]
  rw [show tm p0 (5 : Int32) (5 : Int32) (10 : Int32) = (dgt p0 (5 : Int32)).toInt64 * 10000 from by unfold tm; rw [if_neg (by decide), if_pos (by decide)]; rfl]
  rw [show tm p0 (6 : Int32) (5 : Int32) (10 : Int32) = (dgt p0 (6 : Int32)).toInt64 * 1000 from by unfold tm; rw [if_neg (by decide), if_pos (by decide)]; rfl]
  rw [show tm p0 (7 : Int32) (5 : Int32) (10 : Int32) = (dgt p0 (7 : Int32)).toInt64 * 100 from by unfold tm; rw [if_neg (by decide), if_pos (by decide)]; rfl]
  rw [show tm p0 (8 : Int32) (5 : Int32) (10 : Int32) = (dgt p0 (8 : Int32)).toInt64 * 10 from by unfold tm; rw [if_neg (by decide), if_pos (by decide)]; rfl]
  rw [show tm p0 (9 : Int32) (5 : Int32) (10 : Int32) = (dgt p0 (9 : Int32)).toInt64 * 1 from by unfold tm; rw [if_neg (by decide), if_pos (by decide)]; rfl]
  generalize dgt p0 (5 : Int32) = d5
  generalize dgt p0 (6 : Int32) = d6
  generalize dgt p0 (7 : Int32) = d7
  generalize dgt p0 (8 : Int32) = d8
  generalize dgt p0 (9 : Int32) = d9
  simp only [Int64.toInt32_add, Int64.toInt32_mul, Int32.toInt32_toInt64, show Int64.toInt32 0 = 0 from rfl, show Int64.toInt32 1 = 1 from rfl, show Int64.toInt32 10 = 10 from rfl, show Int64.toInt32 100 = 100 from rfl, show Int64.toInt32 1000 = 1000 from rfl, show Int64.toInt32 10000 = 10000 from rfl, show Int64.toInt32 100000 = 100000 from rfl, show Int64.toInt32 1000000 = 1000000 from rfl, show Int64.toInt32 10000000 = 10000000 from rfl, show Int64.toInt32 100000000 = 100000000 from rfl, show Int64.toInt32 1000000000 = 1000000000 from rfl]
  show numr [(48 + d5), (48 + d6), (48 + d7), (48 + d8), (48 + d9)] (5 : Int32) (10 : Int32) 0 = _
  rw [numr_c, if_pos (by decide)]
  rw [numr_c, if_pos (by decide)]
  rw [numr_c, if_pos (by decide)]
  rw [numr_c, if_pos (by decide)]
  rw [numr_c, if_pos (by decide)]
  unfold numr
  grind

theorem ne_6_6 (p0 : Int64) (u0 u1 u2 u3 u4 u5 u6 u7 u8 u9 : Int32) : num10 [u0, u1, u2, u3, u4, u5, u6, u7, u8, u9] (6 : Int32) (6 : Int32) = ((((((((((tm p0 (0 : Int32) (6 : Int32) (6 : Int32)) + (tm p0 (1 : Int32) (6 : Int32) (6 : Int32))) + (tm p0 (2 : Int32) (6 : Int32) (6 : Int32))) + (tm p0 (3 : Int32) (6 : Int32) (6 : Int32))) + (tm p0 (4 : Int32) (6 : Int32) (6 : Int32))) + (tm p0 (5 : Int32) (6 : Int32) (6 : Int32))) + (tm p0 (6 : Int32) (6 : Int32) (6 : Int32))) + (tm p0 (7 : Int32) (6 : Int32) (6 : Int32))) + (tm p0 (8 : Int32) (6 : Int32) (6 : Int32))) + (tm p0 (9 : Int32) (6 : Int32) (6 : Int32))).toInt32 := by
  rw [show tm p0 (0 : Int32) (6 : Int32) (6 : Int32) = (0 : Int64) from if_pos (by decide)]
  rw [show tm p0 (1 : Int32) (6 : Int32) (6 : Int32) = (0 : Int64) from if_pos (by decide)]
  rw [show tm p0 (2 : Int32) (6 : Int32) (6 : Int32) = (0 : Int64) from if_pos (by decide)]
  rw [show tm p0 (3 : Int32) (6 : Int32) (6 : Int32) = (0 : Int64) from if_pos (by decide)]
  rw [show tm p0 (4 : Int32) (6 : Int32) (6 : Int32) = (0 : Int64) from if_pos (by decide)]
  rw [show tm p0 (5 : Int32) (6 : Int32) (6 : Int32) = (0 : Int64) from if_pos (by decide)]
  rw [show tm p0 (6 : Int32) (6 : Int32) (6 : Int32) = (0 : Int64) from by unfold tm; rw [if_neg (by decide), if_neg (by decide)]]
  rw [show tm p0 (7 : Int32) (6 : Int32) (6 : Int32) = (0 : Int64) from by unfold tm; rw [if_neg (by decide), if_neg (by decide)]]
  rw [show tm p0 (8 : Int32) (6 : Int32) (6 : Int32) = (0 : Int64) from by unfold tm; rw [if_neg (by decide), if_neg (by decide)]]
  rw [show tm p0 (9 : Int32) (6 : Int32) (6 : Int32) = (0 : Int64) from by unfold tm; rw [if_neg (by decide), if_neg (by decide)]]
  simp only [Int64.toInt32_add, Int64.toInt32_mul, Int32.toInt32_toInt64, show Int64.toInt32 0 = 0 from rfl, show Int64.toInt32 1 = 1 from rfl, show Int64.toInt32 10 = 10 from rfl, show Int64.toInt32 100 = 100 from rfl, show Int64.toInt32 1000 = 1000 from rfl, show Int64.toInt32 10000 = 10000 from rfl, show Int64.toInt32 100000 = 100000 from rfl, show Int64.toInt32 1000000 = 1000000 from rfl, show Int64.toInt32 10000000 = 10000000 from rfl, show Int64.toInt32 100000000 = 100000000 from rfl, show Int64.toInt32 1000000000 = 1000000000 from rfl]
  show numr [u6, u7, u8, u9] (6 : Int32) (6 : Int32) 0 = _
  rw [numr_c, if_neg (by decide)]
  grind
theorem ne_6_7 (p0 : Int64) (u0 u1 u2 u3 u4 u5 u6 u7 u8 u9 : Int32) : num10 [u0, u1, u2, u3, u4, u5, ((48 : Int32) + dgt p0 (6 : Int32)), u7, u8, u9] (6 : Int32) (7 : Int32) = ((((((((((tm p0 (0 : Int32) (6 : Int32) (7 : Int32)) + (tm p0 (1 : Int32) (6 : Int32) (7 : Int32))) + (tm p0 (2 : Int32) (6 : Int32) (7 : Int32))) + (tm p0 (3 : Int32) (6 : Int32) (7 : Int32))) + (tm p0 (4 : Int32) (6 : Int32) (7 : Int32))) + (tm p0 (5 : Int32) (6 : Int32) (7 : Int32))) + (tm p0 (6 : Int32) (6 : Int32) (7 : Int32))) + (tm p0 (7 : Int32) (6 : Int32) (7 : Int32))) + (tm p0 (8 : Int32) (6 : Int32) (7 : Int32))) + (tm p0 (9 : Int32) (6 : Int32) (7 : Int32))).toInt32 := by
  rw [show tm p0 (0 : Int32) (6 : Int32) (7 : Int32) = (0 : Int64) from if_pos (by decide)]
  rw [show tm p0 (1 : Int32) (6 : Int32) (7 : Int32) = (0 : Int64) from if_pos (by decide)]
  rw [show tm p0 (2 : Int32) (6 : Int32) (7 : Int32) = (0 : Int64) from if_pos (by decide)]
  rw [show tm p0 (3 : Int32) (6 : Int32) (7 : Int32) = (0 : Int64) from if_pos (by decide)]
  rw [show tm p0 (4 : Int32) (6 : Int32) (7 : Int32) = (0 : Int64) from if_pos (by decide)]
  rw [show tm p0 (5 : Int32) (6 : Int32) (7 : Int32) = (0 : Int64) from if_pos (by decide)]
  rw [show tm p0 (6 : Int32) (6 : Int32) (7 : Int32) = (dgt p0 (6 : Int32)).toInt64 * 1 from by unfold tm; rw [if_neg (by decide), if_pos (by decide)]; rfl]
  rw [show tm p0 (7 : Int32) (6 : Int32) (7 : Int32) = (0 : Int64) from by unfold tm; rw [if_neg (by decide), if_neg (by decide)]]
  rw [show tm p0 (8 : Int32) (6 : Int32) (7 : Int32) = (0 : Int64) from by unfold tm; rw [if_neg (by decide), if_neg (by decide)]]
  rw [show tm p0 (9 : Int32) (6 : Int32) (7 : Int32) = (0 : Int64) from by unfold tm; rw [if_neg (by decide), if_neg (by decide)]]
  generalize dgt p0 (6 : Int32) = d6
  simp only [Int64.toInt32_add, Int64.toInt32_mul, Int32.toInt32_toInt64, show Int64.toInt32 0 = 0 from rfl, show Int64.toInt32 1 = 1 from rfl, show Int64.toInt32 10 = 10 from rfl, show Int64.toInt32 100 = 100 from rfl, show Int64.toInt32 1000 = 1000 from rfl, show Int64.toInt32 10000 = 10000 from rfl, show Int64.toInt32 100000 = 100000 from rfl, show Int64.toInt32 1000000 = 1000000 from rfl, show Int64.toInt32 10000000 = 10000000 from rfl, show Int64.toInt32 100000000 = 100000000 from rfl, show Int64.toInt32 1000000000 = 1000000000 from rfl]
  show numr [(48 + d6), u7, u8, u9] (6 : Int32) (7 : Int32) 0 = _
  rw [numr_c, if_pos (by decide)]
  rw [numr_c, if_neg (by decide)]
  grind
theorem ne_6_8 (p0 : Int64) (u0 u1 u2 u3 u4 u5 u6 u7 u8 u9 : Int32) : num10 [u0, u1, u2, u3, u4, u5, ((48 : Int32) + dgt p0 (6 : Int32)), ((48 : Int32) + dgt p0 (7 : Int32)), u8, u9] (6 : Int32) (8 : Int32) = ((((((((((tm p0 (0 : Int32) (6 : Int32) (8 : Int32)) + (tm p0 (1 : Int32) (6 : Int32) (8 : Int32))) + (tm p0 (2 : Int32) (6 : Int32) (8 : Int32))) + (tm p0 (3 : Int32) (6 : Int32) (8 : Int32))) + (tm p0 (4 : Int32) (6 : Int32) (8 : Int32))) + (tm p0 (5 : Int32) (6 : Int32) (8 : Int32))) + (tm p0 (6 : Int32) (6 : Int32) (8 : Int32))) + (tm p0 (7 : Int32) (6 : Int32) (8 : Int32))) + (tm p0 (8 : Int32) (6 : Int32) (8 : Int32))) + (tm p0 (9 : Int32) (6 : Int32) (8 : Int32))).toInt32 := by
  rw [show tm p0 (0 : Int32) (6 : Int32) (8 : Int32) = (0 : Int64) from if_pos (by decide)]
  rw [show tm p0 (1 : Int32) (6 : Int32) (8 : Int32) = (0 : Int64) from if_pos (by decide)]
  rw [show tm p0 (2 : Int32) (6 : Int32) (8 : Int32) = (0 : Int64) from if_pos (by decide)]
  rw [show tm p0 (3 : Int32) (6 : Int32) (8 : Int32) = (0 : Int64) from if_pos (by decide)]
  rw [show tm p0 (4 : Int32) (6 : Int32) (8 : Int32) = (0 : Int64) from if_pos (by decide)]
  rw [show tm p0 (5 : Int32) (6 : Int32) (8 : Int32) = (0 : Int64) from if_pos (by decide)]
  rw [show tm p0 (6 : Int32) (6 : Int32) (8 : Int32) = (dgt p0 (6 : Int32)).toInt64 * 10 from by unfold tm; rw [if_neg (by decide), if_pos (by decide)]; rfl]
  rw [show tm p0 (7 : Int32) (6 : Int32) (8 : Int32) = (dgt p0 (7 : Int32)).toInt64 * 1 from by unfold tm; rw [if_neg (by decide), if_pos (by decide)]; rfl]
  rw [show tm p0 (8 : Int32) (6 : Int32) (8 : Int32) = (0 : Int64) from by unfold tm; rw [if_neg (by decide), if_neg (by decide)]]
  rw [show tm p0 (9 : Int32) (6 : Int32) (8 : Int32) = (0 : Int64) from by unfold tm; rw [if_neg (by decide), if_neg (by decide)]]
  generalize dgt p0 (6 : Int32) = d6
  generalize dgt p0 (7 : Int32) = d7
  simp only [Int64.toInt32_add, Int64.toInt32_mul, Int32.toInt32_toInt64, show Int64.toInt32 0 = 0 from rfl, show Int64.toInt32 1 = 1 from rfl, show Int64.toInt32 10 = 10 from rfl, show Int64.toInt32 100 = 100 from rfl, show Int64.toInt32 1000 = 1000 from rfl, show Int64.toInt32 10000 = 10000 from rfl, show Int64.toInt32 100000 = 100000 from rfl, show Int64.toInt32 1000000 = 1000000 from rfl, show Int64.toInt32 10000000 = 10000000 from rfl, show Int64.toInt32 100000000 = 100000000 from rfl, show Int64.toInt32 1000000000 = 1000000000 from rfl]
  show numr [(48 + d6), (48 + d7), u8, u9] (6 : Int32) (8 : Int32) 0 = _
  rw [numr_c, if_pos (by decide)]
  rw [numr_c, if_pos (by decide)]
  rw [numr_c, if_neg (by decide)]
  grind
theorem ne_6_9 (p0 : Int64) (u0 u1 u2 u3 u4 u5 u6 u7 u8 u9 : Int32) : num10 [u0, u1, u2, u3, u4, u5, ((48 : Int32) + dgt p0 (6 : Int32)), ((48 : Int32) + dgt p0 (7 : Int32)), ((48 : Int32) + dgt p0 (8 : Int32)), u9] (6 : Int32) (9 : Int32) = ((((((((((tm p0 (0 : Int32) (6 : Int32) (9 : Int32)) + (tm p0 (1 : Int32) (6 : Int32) (9 : Int32))) + (tm p0 (2 : Int32) (6 : Int32) (9 : Int32))) + (tm p0 (3 : Int32) (6 : Int32) (9 : Int32))) + (tm p0 (4 : Int32) (6 : Int32) (9 : Int32))) + (tm p0 (5 : Int32) (6 : Int32) (9 : Int32))) + (tm p0 (6 : Int32) (6 : Int32) (9 : Int32))) + (tm p0 (7 : Int32) (6 : Int32) (9 : Int32))) + (tm p0 (8 : Int32) (6 : Int32) (9 : Int32))) + (tm p0 (9 : Int32) (6 : Int32) (9 : Int32))).toInt32 := by
  rw [show tm p0 (0 : Int32) (6 : Int32) (9 : Int32) = (0 : Int64) from if_pos (by decide)]
  rw [show tm p0 (1 : Int32) (6 : Int32) (9 : Int32) = (0 : Int64) from if_pos (by decide)]
  rw [show tm p0 (2 : Int32) (6 : Int32) (9 : Int32) = (0 : Int64) from if_pos (by decide)]
  rw [show tm p0 (3 : Int32) (6 : Int32) (9 : Int32) = (0 : Int64) from if_pos (by decide)]
  rw [show tm p0 (4 : Int32) (6 : Int32) (9 : Int32) = (0 : Int64) from if_pos (by decide)]
  rw [show tm p0 (5 : Int32) (6 : Int32) (9 : Int32) = (0 : Int64) from if_pos (by decide)]
  rw [show tm p0 (6 : Int32) (6 : Int32) (9 : Int32) = (dgt p0 (6 : Int32)).toInt64 * 100 from by unfold tm; rw [if_neg (by decide), if_pos (by decide)]; rfl]
  rw [show tm p0 (7 : Int32) (6 : Int32) (9 : Int32) = (dgt p0 (7 : Int32)).toInt64 * 10 from by unfold tm; rw [if_neg (by decide), if_pos (by decide)]; rfl]
  rw [show tm p0 (8 : Int32) (6 : Int32) (9 : Int32) = (dgt p0 (8 : Int32)).toInt64 * 1 from by unfold tm; rw [if_neg (by decide), if_pos (by decide)]; rfl]
  rw [show tm p0 (9 : Int32) (6 : Int32) (9 : Int32) = (0 : Int64) from by unfold tm; rw [if_neg (by decide), if_neg (by decide)]]
  generalize dgt p0 (6 : Int32) = d6
  generalize dgt p0 (7 : Int32) = d7
  generalize dgt p0 (8 : Int32) = d8
  simp only [Int64.toInt32_add, Int64.toInt32_mul, Int32.toInt32_toInt64, show Int64.toInt32 0 = 0 from rfl, show Int64.toInt32 1 = 1 from rfl, show Int64.toInt32 10 = 10 from rfl, show Int64.toInt32 100 = 100 from rfl, show Int64.toInt32 1000 = 1000 from rfl, show Int64.toInt32 10000 = 10000 from rfl, show Int64.toInt32 100000 = 100000 from rfl, show Int64.toInt32 1000000 = 1000000 from rfl, show Int64.toInt32 10000000 = 10000000 from rfl, show Int64.toInt32 100000000 = 100000000 from rfl, show Int64.toInt32 1000000000 = 1000000000 from rfl]
  show numr [(48 + d6), (48 + d7), (48 + d8), u9] (6 : Int32) (9 : Int32) 0 = _
  rw [numr_c, if_pos (by decide)]
  rw [numr_c, if_pos (by decide)]
  rw [numr_c, if_pos (by decide)]
  rw [numr_c, if_neg (by decide)]
  grind
theorem ne_6_10 (p0 : Int64) (u0 u1 u2 u3 u4 u5 u6 u7 u8 u9 : Int32) : num10 [u0, u1, u2, u3, u4, u5, ((48 : Int32) + dgt p0 (6 : Int32)), ((48 : Int32) + dgt p0 (7 : Int32)), ((48 : Int32) + dgt p0 (8 : Int32)), ((48 : Int32) + dgt p0 (9 : Int32))] (6 : Int32) (10 : Int32) = ((((((((((tm p0 (0 : Int32) (6 : Int32) (10 : Int32)) + (tm p0 (1 : Int32) (6 : Int32) (10 : Int32))) + (tm p0 (2 : Int32) (6 : Int32) (10 : Int32))) + (tm p0 (3 : Int32) (6 : Int32) (10 : Int32))) + (tm p0 (4 : Int32) (6 : Int32) (10 : Int32))) + (tm p0 (5 : Int32) (6 : Int32) (10 : Int32))) + (tm p0 (6 : Int32) (6 : Int32) (10 : Int32))) + (tm p0 (7 : Int32) (6 : Int32) (10 : Int32))) + (tm p0 (8 : Int32) (6 : Int32) (10 : Int32))) + (tm p0 (9 : Int32) (6 : Int32) (10 : Int32))).toInt32 := by
  rw [show tm p0 (0 : Int32) (6 : Int32) (10 : Int32) = (0 : Int64) from if_pos (by decide)]
  rw [show tm p0 (1 : Int32) (6 : Int32) (10 : Int32) = (0 : Int64) from if_pos (by decide)]
  rw [show tm p0 (2 : Int32) (6 : Int32) (10 : Int32) = (0 : Int64) from if_pos (by decide)]
  rw [show tm p0 (3 : Int32) (6 : Int32) (10 : Int32) = (0 : Int64) from if_pos (by decide)]
  rw [show tm p0 (4 : Int32) (6 : Int32) (10 : Int32) = (0 : Int64) from if_pos (by decide)]
  rw [show tm p0 (5 : Int32) (6 : Int32) (10 : Int32) = (0 : Int64) from if_pos (by decide)]
  rw [show tm p0 (6 : Int32) (6 : Int32) (10 : Int32) = (dgt p0 (6 : Int32)).toInt64 * 1000 from by unfold tm; rw [if_neg (by decide), if_pos (by decide)]; rfl]
  rw [show tm p0 (7 : Int32) (6 : Int32) (10 : Int32) = (dgt p0 (7 : Int32)).toInt64 * 100 from by unfold tm; rw [if_neg (by decide), if_pos (by decide)]; rfl]
  rw [show tm p0 (8 : Int32) (6 : Int32) (10 : Int32) = (dgt p0 (8 : Int32)).toInt64 * 10 from by unfold tm; rw [if_neg (by decide), if_pos (by decide)]; rfl]
  rw [show tm p0 (9 : Int32) (6 : Int32) (10 : Int32) = (dgt p0 (9 : Int32)).toInt64 * 1 from by unfold tm; rw [if_neg (by decide), if_pos (by decide)]; rfl]
  generalize dgt p0 (6 : Int32) = d6
  generalize dgt p0 (7 : Int32) = d7
  generalize dgt p0 (8 : Int32) = d8
  generalize dgt p0 (9 : Int32) = d9
  simp only [Int64.toInt32_add, Int64.toInt32_mul, Int32.toInt32_toInt64, show Int64.toInt32 0 = 0 from rfl, show Int64.toInt32 1 = 1 from rfl, show Int64.toInt32 10 = 10 from rfl, show Int64.toInt32 100 = 100 from rfl, show Int64.toInt32 1000 = 1000 from rfl, show Int64.toInt32 10000 = 10000 from rfl, show Int64.toInt32 100000 = 100000 from rfl, show Int64.toInt32 1000000 = 1000000 from rfl, show Int64.toInt32 10000000 = 10000000 from rfl, show Int64.toInt32 100000000 = 100000000 from rfl, show Int64.toInt32 1000000000 = 1000000000 from rfl]
  show numr [(48 + d6), (48 + d7), (48 + d8), (48 + d9)] (6 : Int32) (10 : Int32) 0 = _
  rw [numr_c, if_pos (by decide)]
  rw [numr_c, if_pos (by decide)]
  rw [numr_c, if_pos (by decide)]
  rw [numr_c, if_pos (by decide)]
  unfold numr
  grind

theorem ne_7_7 (p0 : Int64) (u0 u1 u2 u3 u4 u5 u6 u7 u8 u9 : Int32) : num10 [u0, u1, u2, u3, u4, u5, u6, u7, u8, u9] (7 : Int32) (7 : Int32) = ((((((((((tm p0 (0 : Int32) (7 : Int32) (7 : Int32)) + (tm p0 (1 : Int32) (7 : Int32) (7 : Int32))) + (tm p0 (2 : Int32) (7 : Int32) (7 : Int32))) + (tm p0 (3 : Int32) (7 : Int32) (7 : Int32))) + (tm p0 (4 : Int32) (7 : Int32) (7 : Int32))) + (tm p0 (5 : Int32) (7 : Int32) (7 : Int32))) + (tm p0 (6 : Int32) (7 : Int32) (7 : Int32))) + (tm p0 (7 : Int32) (7 : Int32) (7 : Int32))) + (tm p0 (8 : Int32) (7 : Int32) (7 : Int32))) + (tm p0 (9 : Int32) (7 : Int32) (7 : Int32))).toInt32 := by
  rw [show tm p0 (0 : Int32) (7 : Int32) (7 : Int32) = (0 : Int64) from if_pos (by decide)]
  rw [show tm p0 (1 : Int32) (7 : Int32) (7 : Int32) = (0 : Int64) from if_pos (by decide)]
  rw [show tm p0 (2 : Int32) (7 : Int32) (7 : Int32) = (0 : Int64) from if_pos (by decide)]
  rw [show tm p0 (3 : Int32) (7 : Int32) (7 : Int32) = (0 : Int64) from if_pos (by decide)]
  rw [show tm p0 (4 : Int32) (7 : Int32) (7 : Int32) = (0 : Int64) from if_pos (by decide)]
  rw [show tm p0 (5 : Int32) (7 : Int32) (7 : Int32) = (0 : Int64) from if_pos (by decide)]
  rw [show tm p0 (6 : Int32) (7 : Int32) (7 : Int32) = (0 : Int64) from if_pos (by decide)]
  rw [show tm p0 (7 : Int32) (7 : Int32) (7 : Int32) = (0 : Int64) from by unfold tm; rw [if_neg (by decide), if_neg (by decide)]]
  rw [show tm p0 (8 : Int32) (7 : Int32) (7 : Int32) = (0 : Int64) from by unfold tm; rw [if_neg (by decide), if_neg (by decide)]]
  rw [show tm p0 (9 : Int32) (7 : Int32) (7 : Int32) = (0 : Int64) from by unfold tm; rw [if_neg (by decide), if_neg (by decide)]]
  simp only [Int64.toInt32_add, Int64.toInt32_mul, Int32.toInt32_toInt64, show Int64.toInt32 0 = 0 from rfl, show Int64.toInt32 1 = 1 from rfl, show Int64.toInt32 10 = 10 from rfl, show Int64.toInt32 100 = 100 from rfl, show Int64.toInt32 1000 = 1000 from rfl, show Int64.toInt32 10000 = 10000 from rfl, show Int64.toInt32 100000 = 100000 from rfl, show Int64.toInt32 1000000 = 1000000 from rfl, show Int64.toInt32 10000000 = 10000000 from rfl, show Int64.toInt32 100000000 = 100000000 from rfl, show Int64.toInt32 1000000000 = 1000000000 from rfl]
  show numr [u7, u8, u9] (7 : Int32) (7 : Int32) 0 = _
  rw [numr_c, if_neg (by decide)]
  grind
theorem ne_7_8 (p0 : Int64) (u0 u1 u2 u3 u4 u5 u6 u7 u8 u9 : Int32) : num10 [u0, u1, u2, u3, u4, u5, u6, ((48 : Int32) + dgt p0 (7 : Int32)), u8, u9] (7 : Int32) (8 : Int32) = ((((((((((tm p0 (0 : Int32) (7 : Int32) (8 : Int32)) + (tm p0 (1 : Int32) (7 : Int32) (8 : Int32))) + (tm p0 (2 : Int32) (7 : Int32) (8 : Int32))) + (tm p0 (3 : Int32) (7 : Int32) (8 : Int32))) + (tm p0 (4 : Int32) (7 : Int32) (8 : Int32))) + (tm p0 (5 : Int32) (7 : Int32) (8 : Int32))) + (tm p0 (6 : Int32) (7 : Int32) (8 : Int32))) + (tm p0 (7 : Int32) (7 : Int32) (8 : Int32))) + (tm p0 (8 : Int32) (7 : Int32) (8 : Int32))) + (tm p0 (9 : Int32) (7 : Int32) (8 : Int32))).toInt32 := by
  rw [show tm p0 (0 : Int32) (7 : Int32) (8 : Int32) = (0 : Int64) from if_pos (by decide)]
  rw [show tm p0 (1 : Int32) (7 : Int32) (8 : Int32) = (0 : Int64) from if_pos (by decide)]
  rw [show tm p0 (2 : Int32) (7 : Int32) (8 : Int32) = (0 : Int64) from if_pos (by decide)]
  rw [show tm p0 (3 : Int32) (7 : Int32) (8 : Int32) = (0 : Int64) from if_pos (by decide)]
  rw [show tm p0 (4 : Int32) (7 : Int32) (8 : Int32) = (0 : Int64) from if_pos (by decide)]
  rw [show tm p0 (5 : Int32) (7 : Int32) (8 : Int32) = (0 : Int64) from if_pos (by decide)]
  rw [show tm p0 (6 : Int32) (7 : Int32) (8 : Int32) = (0 : Int64) from if_pos (by decide)]
  rw [show tm p0 (7 : Int32) (7 : Int32) (8 : Int32) = (dgt p0 (7 : Int32)).toInt64 * 1 from by unfold tm; rw [if_neg (by decide), if_pos (by decide)]; rfl]
  rw [show tm p0 (8 : Int32) (7 : Int32) (8 : Int32) = (0 : Int64) from by unfold tm; rw [if_neg (by decide), if_neg (by decide)]]
  rw [show tm p0 (9 : Int32) (7 : Int32) (8 : Int32) = (0 : Int64) from by unfold tm; rw [if_neg (by decide), if_neg (by decide)]]
  generalize dgt p0 (7 : Int32) = d7
  simp only [Int64.toInt32_add, Int64.toInt32_mul, Int32.toInt32_toInt64, show Int64.toInt32 0 = 0 from rfl, show Int64.toInt32 1 = 1 from rfl, show Int64.toInt32 10 = 10 from rfl, show Int64.toInt32 100 = 100 from rfl, show Int64.toInt32 1000 = 1000 from rfl, show Int64.toInt32 10000 = 10000 from rfl, show Int64.toInt32 100000 = 100000 from rfl, show Int64.toInt32 1000000 = 1000000 from rfl, show Int64.toInt32 10000000 = 10000000 from rfl, show Int64.toInt32 100000000 = 100000000 from rfl, show Int64.toInt32 1000000000 = 1000000000 from rfl]
  show numr [(48 + d7), u8, u9] (7 : Int32) (8 : Int32) 0 = _
  rw [numr_c, if_pos (by decide)]
  rw [numr_c, if_neg (by decide)]
  grind
theorem ne_7_9 (p0 : Int64) (u0 u1 u2 u3 u4 u5 u6 u7 u8 u9 : Int32) : num10 [u0, u1, u2, u3, u4, u5, u6, ((48 : Int32) + dgt p0 (7 : Int32)), ((48 : Int32) + dgt p0 (8 : Int32)), u9] (7 : Int32) (9 : Int32) = ((((((((((tm p0 (0 : Int32) (7 : Int32) (9 : Int32)) + (tm p0 (1 : Int32) (7 : Int32) (9 : Int32))) + (tm p0 (2 : Int32) (7 : Int32) (9 : Int32))) + (tm p0 (3 : Int32) (7 : Int32) (9 : Int32))) + (tm p0 (4 : Int32) (7 : Int32) (9 : Int32))) + (tm p0 (5 : Int32) (7 : Int32) (9 : Int32))) + (tm p0 (6 : Int32) (7 : Int32) (9 : Int32))) + (tm p0 (7 : Int32) (7 : Int32) (9 : Int32))) + (tm p0 (8 : Int32) (7 : Int32) (9 : Int32))) + (tm p0 (9 : Int32) (7 : Int32) (9 : Int32))).toInt32 := by
  rw [show tm p0 (0 : Int32) (7 : Int32) (9 : Int32) = (0 : Int64) from if_pos (by decide)]
  rw [show tm p0 (1 : Int32) (7 : Int32) (9 : Int32) = (0 : Int64) from if_pos (by decide)]
  rw [show tm p0 (2 : Int32) (7 : Int32) (9 : Int32) = (0 : Int64) from if_pos (by decide)]
  rw [show tm p0 (3 : Int32) (7 : Int32) (9 : Int32) = (0 : Int64) from if_pos (by decide)]
  rw [show tm p0 (4 : Int32) (7 : Int32) (9 : Int32) = (0 : Int64) from if_pos (by decide)]
  rw [show tm p0 (5 : Int32) (7 : Int32) (9 : Int32) = (0 : Int64) from if_pos (by decide)]
  rw [show tm p0 (6 : Int32) (7 : Int32) (9 : Int32) = (0 : Int64) from if_pos (by decide)]
  rw [show tm p0 (7 : Int32) (7 : Int32) (9 : Int32) = (dgt p0 (7 : Int32)).toInt64 * 10 from by unfold tm; rw [if_neg (by decide), if_pos (by decide)]; rfl]
  rw [show tm p0 (8 : Int32) (7 : Int32) (9 : Int32) = (dgt p0 (8 : Int32)).toInt64 * 1 from by unfold tm; rw [if_neg (by decide), if_pos (by decide)]; rfl]
  rw [show tm p0 (9 : Int32) (7 : Int32) (9 : Int32) = (0 : Int64) from by unfold tm; rw [if_neg (by decide), if_neg (by decide)]]
  generalize dgt p0 (7 : Int32) = d7
  generalize dgt p0 (8 : Int32) = d8
  simp only [Int64.toInt32_add, Int64.toInt32_mul, Int32.toInt32_toInt64, show Int64.toInt32 0 = 0 from rfl, show Int64.toInt32 1 = 1 from rfl, show Int64.toInt32 10 = 10 from rfl, show Int64.toInt32 100 = 100 from rfl, show Int64.toInt32 1000 = 1000 from rfl, show Int64.toInt32 10000 = 10000 from rfl, show Int64.toInt32 100000 = 100000 from rfl, show Int64.toInt32 1000000 = 1000000 from rfl, show Int64.toInt32 10000000 = 10000000 from rfl, show Int64.toInt32 100000000 = 100000000 from rfl, show Int64.toInt32 1000000000 = 1000000000 from rfl]
  show numr [(48 + d7), (48 + d8), u9] (7 : Int32) (9 : Int32) 0 = _
  rw [numr_c, if_pos (by decide)]
  rw [numr_c, if_pos (by decide)]
  rw [numr_c, if_neg (by decide)]
  grind
theorem ne_7_10 (p0 : Int64) (u0 u1 u2 u3 u4 u5 u6 u7 u8 u9 : Int32) : num10 [u0, u1, u2, u3, u4, u5, u6, ((48 : Int32) + dgt p0 (7 : Int32)), ((48 : Int32) + dgt p0 (8 : Int32)), ((48 : Int32) + dgt p0 (9 : Int32))] (7 : Int32) (10 : Int32) = ((((((((((tm p0 (0 : Int32) (7 : Int32) (10 : Int32)) + (tm p0 (1 : Int32) (7 : Int32) (10 : Int32))) + (tm p0 (2 : Int32) (7 : Int32) (10 : Int32))) + (tm p0 (3 : Int32) (7 : Int32) (10 : Int32))) + (tm p0 (4 : Int32) (7 : Int32) (10 : Int32))) + (tm p0 (5 : Int32) (7 : Int32) (10 : Int32))) + (tm p0 (6 : Int32) (7 : Int32) (10 : Int32))) + (tm p0 (7 : Int32) (7 : Int32) (10 : Int32))) + (tm p0 (8 : Int32) (7 : Int32) (10 : Int32))) + (tm p0 (9 : Int32) (7 : Int32) (10 : Int32))).toInt32 := by
  rw [show tm p0 (0 : Int32) (7 : Int32) (10 : Int32) = (0 : Int64) from if_pos (by decide)]
  rw [show tm p0 (1 : Int32) (7 : Int32) (10 : Int32) = (0 : Int64) from if_pos (by decide)]
  rw [show tm p0 (2 : Int32) (7 : Int32) (10 : Int32) = (0 : Int64) from if_pos (by decide)]
  rw [show tm p0 (3 : Int32) (7 : Int32) (10 : Int32) = (0 : Int64) from if_pos (by decide)]
  rw [show tm p0 (4 : Int32) (7 : Int32) (10 : Int32) = (0 : Int64) from if_pos (by decide)]
  rw [show tm p0 (5 : Int32) (7 : Int32) (10 : Int32) = (0 : Int64) from if_pos (by decide)]
  rw [show tm p0 (6 : Int32) (7 : Int32) (10 : Int32) = (0 : Int64) from if_pos (by decide)]
  rw [show tm p0 (7 : Int32) (7 : Int32) (10 : Int32) = (dgt p0 (7 : Int32)).toInt64 * 100 from by unfold tm; rw [if_neg (by decide), if_pos (by decide)]; rfl]
  rw [show tm p0 (8 : Int32) (7 : Int32) (10 : Int32) = (dgt p0 (8 : Int32)).toInt64 * 10 from by unfold tm; rw [if_neg (by decide), if_pos (by decide)]; rfl]
  rw [show tm p0 (9 : Int32) (7 : Int32) (10 : Int32) = (dgt p0 (9 : Int32)).toInt64 * 1 from by unfold tm; rw [if_neg (by decide), if_pos (by decide)]; rfl]
  generalize dgt p0 (7 : Int32) = d7
  generalize dgt p0 (8 : Int32) = d8
  generalize dgt p0 (9 : Int32) = d9
  simp only [Int64.toInt32_add, Int64.toInt32_mul, Int32.toInt32_toInt64, show Int64.toInt32 0 = 0 from rfl, show Int64.toInt32 1 = 1 from rfl, show Int64.toInt32 10 = 10 from rfl, show Int64.toInt32 100 = 100 from rfl, show Int64.toInt32 1000 = 1000 from rfl, show Int64.toInt32 10000 = 10000 from rfl, show Int64.toInt32 100000 = 100000 from rfl, show Int64.toInt32 1000000 = 1000000 from rfl, show Int64.toInt32 10000000 = 10000000 from rfl, show Int64.toInt32 100000000 = 100000000 from rfl, show Int64.toInt32 1000000000 = 1000000000 from rfl]
  show numr [(48 + d7), (48 + d8), (48 + d9)] (7 : Int32) (10 : Int32) 0 = _
  rw [numr_c, if_pos (by decide)]
  rw [numr_c, if_pos (by decide)]
  rw [numr_c, if_pos (by decide)]
  unfold numr
  grind

theorem ne_8_8 (p0 : Int64) (u0 u1 u2 u3 u4 u5 u6 u7 u8 u9 : Int32) : num10 [u0, u1, u2, u3, u4, u5, u6, u7, u8, u9] (8 : Int32) (8 : Int32) = ((((((((((tm p0 (0 : Int32) (8 : Int32) (8 : Int32)) + (tm p0 (1 : Int32) (8 : Int32) (8 : Int32))) + (tm p0 (2 : Int32) (8 : Int32) (8 : Int32))) + (tm p0 (3 : Int32) (8 : Int32) (8 : Int32))) + (tm p0 (4 : Int32) (8 : Int32) (8 : Int32))) + (tm p0 (5 : Int32) (8 : Int32) (8 : Int32))) + (tm p0 (6 : Int32) (8 : Int32) (8 : Int32))) + (tm p0 (7 : Int32) (8 : Int32) (8 : Int32))) + (tm p0 (8 : Int32) (8 : Int32) (8 : Int32))) + (tm p0 (9 : Int32) (8 : Int32) (8 : Int32))).toInt32 := by
  rw [show tm p0 (0 : Int32) (8 : Int32) (8 : Int32) = (0 : Int64) from if_pos (by decide)]
  rw [show tm p0 (1 : Int32) (8 : Int32) (8 : Int32) = (0 : Int64) from if_pos (by decide)]
  rw [show tm p0 (2 : Int32) (8 : Int32) (8 : Int32) = (0 : Int64) from if_pos (by decide)]
  rw [show tm p0 (3 : Int32) (8 : Int32) (8 : Int32) = (0 : Int64) from if_pos (by decide)]
  rw [show tm p0 (4 : Int32) (8 : Int32) (8 : Int32) = (0 : Int64) from if_pos (by decide)]
  rw [show tm p0 (5 : Int32) (8 : Int32) (8 : Int32) = (0 : Int64) from if_pos (by decide)]
  rw [show tm p0 (6 : Int32) (8 : Int32) (8 : Int32) = (0 : Int64) from if_pos (by decide)]
  rw [show tm p0 (7 : Int32) (8 : Int32) (8 : Int32) = (0 : Int64) from if_pos (by decide)]
  rw [show tm p0 (8 : Int32) (8 : Int32) (8 : Int32) = (0 : Int64) from by unfold tm; rw [if_neg (by decide), if_neg (by decide)]]
  rw [show tm p0 (9 : Int32) (8 : Int32) (8 : Int32) = (0 : Int64) from by unfold tm; rw [if_neg (by decide), if_neg (by decide)]]
  simp only [Int64.toInt32_add, Int64.toInt32_mul, Int32.toInt32_toInt64, show Int64.toInt32 0 = 0 from rfl, show Int64.toInt32 1 = 1 from rfl, show Int64.toInt32 10 = 10 from rfl, show Int64.toInt32 100 = 100 from rfl, show Int64.toInt32 1000 = 1000 from rfl, show Int64.toInt32 10000 = 10000 from rfl, show Int64.toInt32 100000 = 100000 from rfl, show Int64.toInt32 1000000 = 1000000 from rfl, show Int64.toInt32 10000000 = 10000000 from rfl, show Int64.toInt32 100000000 = 100000000 from rfl, show Int64.toInt32 1000000000 = 1000000000 from rfl]
  show numr [u8, u9] (8 : Int32) (8 : Int32) 0 = _
  rw [numr_c, if_neg (by decide)]
  grind
theorem ne_8_9 (p0 : Int64) (u0 u1 u2 u3 u4 u5 u6 u7 u8 u9 : Int32) : num10 [u0, u1, u2, u3, u4, u5, u6, u7, ((48 : Int32) + dgt p0 (8 : Int32)), u9] (8 : Int32) (9 : Int32) = ((((((((((tm p0 (0 : Int32) (8 : Int32) (9 : Int32)) + (tm p0 (1 : Int32) (8 : Int32) (9 : Int32))) + (tm p0 (2 : Int32) (8 : Int32) (9 : Int32))) + (tm p0 (3 : Int32) (8 : Int32) (9 : Int32))) + (tm p0 (4 : Int32) (8 : Int32) (9 : Int32))) + (tm p0 (5 : Int32) (8 : Int32) (9 : Int32))) + (tm p0 (6 : Int32) (8 : Int32) (9 : Int32))) + (tm p0 (7 : Int32) (8 : Int32) (9 : Int32))) + (tm p0 (8 : Int32) (8 : Int32) (9 : Int32))) + (tm p0 (9 : Int32) (8 : Int32) (9 : Int32))).toInt32 := by
  rw [show tm p0 (0 : Int32) (8 : Int32) (9 : Int32) = (0 : Int64) from if_pos (by decide)]
  rw [show tm p0 (1 : Int32) (8 : Int32) (9 : Int32) = (0 : Int64) from if_pos (by decide)]
  rw [show tm p0 (2 : Int32) (8 : Int32) (9 : Int32) = (0 : Int64) from if_pos (by decide)]
  rw [show tm p0 (3 : Int32) (8 : Int32) (9 : Int32) = (0 : Int64) from if_pos (by decide)]
  rw [show tm p0 (4 : Int32) (8 : Int32) (9 : Int32) = (0 : Int64) from if_pos (by decide)]
  rw [show tm p0 (5 : Int32) (8 : Int32) (9 : Int32) = (0 : Int64) from if_pos (by decide)]
  rw [show tm p0 (6 : Int32) (8 : Int32) (9 : Int32) = (0 : Int64) from if_pos (by decide)]
  rw [show tm p0 (7 : Int32) (8 : Int32) (9 : Int32) = (0 : Int64) from if_pos (by decide)]
  rw [show tm p0 (8 : Int32) (8 : Int32) (9 : Int32) = (dgt p0 (8 : Int32)).toInt64 * 1 from by unfold tm; rw [if_neg (by decide), if_pos (by decide)]; rfl]
  rw [show tm p0 (9 : Int32) (8 : Int32) (9 : Int32) = (0 : Int64) from by unfold tm; rw [if_neg (by decide), if_neg (by decide)]]
  generalize dgt p0 (8 : Int32) = d8
  simp only [Int64.toInt32_add, Int64.toInt32_mul, Int32.toInt32_toInt64, show Int64.toInt32 0 = 0 from rfl, show Int64.toInt32 1 = 1 from rfl, show Int64.toInt32 10 = 10 from rfl, show Int64.toInt32 100 = 100 from rfl, show Int64.toInt32 1000 = 1000 from rfl, show Int64.toInt32 10000 = 10000 from rfl, show Int64.toInt32 100000 = 100000 from rfl, show Int64.toInt32 1000000 = 1000000 from rfl, show Int64.toInt32 10000000 = 10000000 from rfl, show Int64.toInt32 100000000 = 100000000 from rfl, show Int64.toInt32 1000000000 = 1000000000 from rfl]
  show numr [(48 + d8), u9] (8 : Int32) (9 : Int32) 0 = _
  rw [numr_c, if_pos (by decide)]
  rw [numr_c, if_neg (by decide)]
  grind
theorem ne_8_10 (p0 : Int64) (u0 u1 u2 u3 u4 u5 u6 u7 u8 u9 : Int32) : num10 [u0, u1, u2, u3, u4, u5, u6, u7, ((48 : Int32) + dgt p0 (8 : Int32)), ((48 : Int32) + dgt p0 (9 : Int32))] (8 : Int32) (10 : Int32) = ((((((((((tm p0 (0 : Int32) (8 : Int32) (10 : Int32)) + (tm p0 (1 : Int32) (8 : Int32) (10 : Int32))) + (tm p0 (2 : Int32) (8 : Int32) (10 : Int32))) + (tm p0 (3 : Int32) (8 : Int32) (10 : Int32))) + (tm p0 (4 : Int32) (8 : Int32) (10 : Int32))) + (tm p0 (5 : Int32) (8 : Int32) (10 : Int32))) + (tm p0 (6 : Int32) (8 : Int32) (10 : Int32))) + (tm p0 (7 : Int32) (8 : Int32) (10 : Int32))) + (tm p0 (8 : Int32) (8 : Int32) (10 : Int32))) + (tm p0 (9 : Int32) (8 : Int32) (10 : Int32))).toInt32 := by
  rw [show tm p0 (0 : Int32) (8 : Int32) (10 : Int32) = (0 : Int64) from if_pos (by decide)]
  rw [show tm p0 (1 : Int32) (8 : Int32) (10 : Int32) = (0 : Int64) from if_pos (by decide)]
  rw [show tm p0 (2 : Int32) (8 : Int32) (10 : Int32) = (0 : Int64) from if_pos (by decide)]
  rw [show tm p0 (3 : Int32) (8 : Int32) (10 : Int32) = (0 : Int64) from if_pos (by decide)]
  rw [show tm p0 (4 : Int32) (8 : Int32) (10 : Int32) = (0 : Int64) from if_pos (by decide)]
  rw [show tm p0 (5 : Int32) (8 : Int32) (10 : Int32) = (0 : Int64) from if_pos (by decide)]
  rw [show tm p0 (6 : Int32) (8 : Int32) (10 : Int32) = (0 : Int64) from if_pos (by decide)]
  rw [show tm p0 (7 : Int32) (8 : Int32) (10 : Int32) = (0 : Int64) from if_pos (by decide)]
  rw [show tm p0 (8 : Int32) (8 : Int32) (10 : Int32) = (dgt p0 (8 : Int32)).toInt64 * 10 from by unfold tm; rw [if_neg (by decide), if_pos (by decide)]; rfl]
  rw [show tm p0 (9 : Int32) (8 : Int32) (10 : Int32) = (dgt p0 (9 : Int32)).toInt64 * 1 from by unfold tm; rw [if_neg (by decide), if_pos (by decide)]; rfl]
  generalize dgt p0 (8 : Int32) = d8
  generalize dgt p0 (9 : Int32) = d9
  simp only [Int64.toInt32_add, Int64.toInt32_mul, Int32.toInt32_toInt64, show Int64.toInt32 0 = 0 from rfl, show Int64.toInt32 1 = 1 from rfl, show Int64.toInt32 10 = 10 from rfl, show Int64.toInt32 100 = 100 from rfl, show Int64.toInt32 1000 = 1000 from rfl, show Int64.toInt32 10000 = 10000 from rfl, show Int64.toInt32 100000 = 100000 from rfl, show Int64.toInt32 1000000 = 1000000 from rfl, show Int64.toInt32 10000000 = 10000000 from rfl, show Int64.toInt32 100000000 = 100000000 from rfl, show Int64.toInt32 1000000000 = 1000000000 from rfl]
  show numr [(48 + d8), (48 + d9)] (8 : Int32) (10 : Int32) 0 = _
  rw [numr_c, if_pos (by decide)]
  rw [numr_c, if_pos (by decide)]
  unfold numr
  grind

theorem ne_9_9 (p0 : Int64) (u0 u1 u2 u3 u4 u5 u6 u7 u8 u9 : Int32) : num10 [u0, u1, u2, u3, u4, u5, u6, u7, u8, u9] (9 : Int32) (9 : Int32) = ((((((((((tm p0 (0 : Int32) (9 : Int32) (9 : Int32)) + (tm p0 (1 : Int32) (9 : Int32) (9 : Int32))) + (tm p0 (2 : Int32) (9 : Int32) (9 : Int32))) + (tm p0 (3 : Int32) (9 : Int32) (9 : Int32))) + (tm p0 (4 : Int32) (9 : Int32) (9 : Int32))) + (tm p0 (5 : Int32) (9 : Int32) (9 : Int32))) + (tm p0 (6 : Int32) (9 : Int32) (9 : Int32))) + (tm p0 (7 : Int32) (9 : Int32) (9 : Int32))) + (tm p0 (8 : Int32) (9 : Int32) (9 : Int32))) + (tm p0 (9 : Int32) (9 : Int32) (9 : Int32))).toInt32 := by
  rw [show tm p0 (0 : Int32) (9 : Int32) (9 : Int32) = (0 : Int64) from if_pos (by decide)]
  rw [show tm p0 (1 : Int32) (9 : Int32) (9 : Int32) = (0 : Int64) from if_pos (by decide)]
  rw [show tm p0 (2 : Int32) (9 : Int32) (9 : Int32) = (0 : Int64) from if_pos (by decide)]
  rw [show tm p0 (3 : Int32) (9 : Int32) (9 : Int32) = (0 : Int64) from if_pos (by decide)]
  rw [show tm p0 (4 : Int32) (9 : Int32) (9 : Int32) = (0 : Int64) from if_pos (by decide)]
  rw [show tm p0 (5 : Int32) (9 : Int32) (9 : Int32) = (0 : Int64) from if_pos (by decide)]
  rw [show tm p0 (6 : Int32) (9 : Int32) (9 : Int32) = (0 : Int64) from if_pos (by decide)]
  rw [show tm p0 (7 : Int32) (9 : Int32) (9 : Int32) = (0 : Int64) from if_pos (by decide)]
  rw [show tm p0 (8 : Int32) (9 : Int32) (9 : Int32) = (0 : Int64) from if_pos (by decide)]
  rw [show tm p0 (9 : Int32) (9 : Int32) (9 : Int32) = (0 : Int64) from by unfold tm; rw [if_neg (by decide), if_neg (by decide)]]
  simp only [Int64.toInt32_add, Int64.toInt32_mul, Int32.toInt32_toInt64, show Int64.toInt32 0 = 0 from rfl, show Int64.toInt32 1 = 1 from rfl, show Int64.toInt32 10 = 10 from rfl, show Int64.toInt32 100 = 100 from rfl, show Int64.toInt32 1000 = 1000 from rfl, show Int64.toInt32 10000 = 10000 from rfl, show Int64.toInt32 100000 = 100000 from rfl, show Int64.toInt32 1000000 = 1000000 from rfl, show Int64.toInt32 10000000 = 10000000 from rfl, show Int64.toInt32 100000000 = 100000000 from rfl, show Int64.toInt32 1000000000 = 1000000000 from rfl]
  show numr [u9] (9 : Int32) (9 : Int32) 0 = _
  rw [numr_c, if_neg (by decide)]
  grind
theorem ne_9_10 (p0 : Int64) (u0 u1 u2 u3 u4 u5 u6 u7 u8 u9 : Int32) : num10 [u0, u1, u2, u3, u4, u5, u6, u7, u8, ((48 : Int32) + dgt p0 (9 : Int32))] (9 : Int32) (10 : Int32) = ((((((((((tm p0 (0 : Int32) (9 : Int32) (10 : Int32)) + (tm p0 (1 : Int32) (9 : Int32) (10 : Int32))) + (tm p0 (2 : Int32) (9 : Int32) (10 : Int32))) + (tm p0 (3 : Int32) (9 : Int32) (10 : Int32))) + (tm p0 (4 : Int32) (9 : Int32) (10 : Int32))) + (tm p0 (5 : Int32) (9 : Int32) (10 : Int32))) + (tm p0 (6 : Int32) (9 : Int32) (10 : Int32))) + (tm p0 (7 : Int32) (9 : Int32) (10 : Int32))) + (tm p0 (8 : Int32) (9 : Int32) (10 : Int32))) + (tm p0 (9 : Int32) (9 : Int32) (10 : Int32))).toInt32 := by
  rw [show tm p0 (0 : Int32) (9 : Int32) (10 : Int32) = (0 : Int64) from if_pos (by decide)]
  rw [show tm p0 (1 : Int32) (9 : Int32) (10 : Int32) = (0 : Int64) from if_pos (by decide)]
  rw [show tm p0 (2 : Int32) (9 : Int32) (10 : Int32) = (0 : Int64) from if_pos (by decide)]
  rw [show tm p0 (3 : Int32) (9 : Int32) (10 : Int32) = (0 : Int64) from if_pos (by decide)]
  rw [show tm p0 (4 : Int32) (9 : Int32) (10 : Int32) = (0 : Int64) from if_pos (by decide)]
  rw [show tm p0 (5 : Int32) (9 : Int32) (10 : Int32) = (0 : Int64) from if_pos (by decide)]
  rw [show tm p0 (6 : Int32) (9 : Int32) (10 : Int32) = (0 : Int64) from if_pos (by decide)]
  rw [show tm p0 (7 : Int32) (9 : Int32) (10 : Int32) = (0 : Int64) from if_pos (by decide)]
  rw [show tm p0 (8 : Int32) (9 : Int32) (10 : Int32) = (0 : Int64) from if_pos (by decide)]
  rw [show tm p0 (9 : Int32) (9 : Int32) (10 : Int32) = (dgt p0 (9 : Int32)).toInt64 * 1 from by unfold tm; rw [if_neg (by decide), if_pos (by decide)]; rfl]
  generalize dgt p0 (9 : Int32) = d9
  simp only [Int64.toInt32_add, Int64.toInt32_mul, Int32.toInt32_toInt64, show Int64.toInt32 0 = 0 from rfl, show Int64.toInt32 1 = 1 from rfl, show Int64.toInt32 10 = 10 from rfl, show Int64.toInt32 100 = 100 from rfl, show Int64.toInt32 1000 = 1000 from rfl, show Int64.toInt32 10000 = 10000 from rfl, show Int64.toInt32 100000 = 100000 from rfl, show Int64.toInt32 1000000 = 1000000 from rfl, show Int64.toInt32 10000000 = 10000000 from rfl, show Int64.toInt32 100000000 = 100000000 from rfl, show Int64.toInt32 1000000000 = 1000000000 from rfl]
  show numr [(48 + d9)] (9 : Int32) (10 : Int32) 0 = _
  rw [numr_c, if_pos (by decide)]
  unfold numr
  grind

theorem ne_10_10 (p0 : Int64) (u0 u1 u2 u3 u4 u5 u6 u7 u8 u9 : Int32) : num10 [u0, u1, u2, u3, u4, u5, u6, u7, u8, u9] (10 : Int32) (10 : Int32) = ((((((((((tm p0 (0 : Int32) (10 : Int32) (10 : Int32)) + (tm p0 (1 : Int32) (10 : Int32) (10 : Int32))) + (tm p0 (2 : Int32) (10 : Int32) (10 : Int32))) + (tm p0 (3 : Int32) (10 : Int32) (10 : Int32))) + (tm p0 (4 : Int32) (10 : Int32) (10 : Int32))) + (tm p0 (5 : Int32) (10 : Int32) (10 : Int32))) + (tm p0 (6 : Int32) (10 : Int32) (10 : Int32))) + (tm p0 (7 : Int32) (10 : Int32) (10 : Int32))) + (tm p0 (8 : Int32) (10 : Int32) (10 : Int32))) + (tm p0 (9 : Int32) (10 : Int32) (10 : Int32))).toInt32 := by
  rw [show tm p0 (0 : Int32) (10 : Int32) (10 : Int32) = (0 : Int64) from if_pos (by decide)]
  rw [show tm p0 (1 : Int32) (10 : Int32) (10 : Int32) = (0 : Int64) from if_pos (by decide)]
  rw [show tm p0 (2 : Int32) (10 : Int32) (10 : Int32) = (0 : Int64) from if_pos (by decide)]
  rw [show tm p0 (3 : Int32) (10 : Int32) (10 : Int32) = (0 : Int64) from if_pos (by decide)]
  rw [show tm p0 (4 : Int32) (10 : Int32) (10 : Int32) = (0 : Int64) from if_pos (by decide)]
  rw [show tm p0 (5 : Int32) (10 : Int32) (10 : Int32) = (0 : Int64) from if_pos (by decide)]
  rw [show tm p0 (6 : Int32) (10 : Int32) (10 : Int32) = (0 : Int64) from if_pos (by decide)]
  rw [show tm p0 (7 : Int32) (10 : Int32) (10 : Int32) = (0 : Int64) from if_pos (by decide)]
  rw [show tm p0 (8 : Int32) (10 : Int32) (10 : Int32) = (0 : Int64) from if_pos (by decide)]
  rw [show tm p0 (9 : Int32) (10 : Int32) (10 : Int32) = (0 : Int64) from if_pos (by decide)]
  simp only [Int64.toInt32_add, Int64.toInt32_mul, Int32.toInt32_toInt64, show Int64.toInt32 0 = 0 from rfl, show Int64.toInt32 1 = 1 from rfl, show Int64.toInt32 10 = 10 from rfl, show Int64.toInt32 100 = 100 from rfl, show Int64.toInt32 1000 = 1000 from rfl, show Int64.toInt32 10000 = 10000 from rfl, show Int64.toInt32 100000 = 100000 from rfl, show Int64.toInt32 1000000 = 1000000 from rfl, show Int64.toInt32 10000000 = 10000000 from rfl, show Int64.toInt32 100000000 = 100000000 from rfl, show Int64.toInt32 1000000000 = 1000000000 from rfl]
  show numr [] (10 : Int32) (10 : Int32) 0 = _
  unfold numr
  grind

theorem num_eq (p0 : Int64) : ∀ (lo hi u0 u1 u2 u3 u4 u5 u6 u7 u8 u9 : Int32), 0 ≤ lo.toInt → lo.toInt ≤ hi.toInt → hi.toInt ≤ 10 → (¬ (0 : Int32) < lo → (0 : Int32) < hi → u0 = (48 : Int32) + dgt p0 (0 : Int32)) → (¬ (1 : Int32) < lo → (1 : Int32) < hi → u1 = (48 : Int32) + dgt p0 (1 : Int32)) → (¬ (2 : Int32) < lo → (2 : Int32) < hi → u2 = (48 : Int32) + dgt p0 (2 : Int32)) → (¬ (3 : Int32) < lo → (3 : Int32) < hi → u3 = (48 : Int32) + dgt p0 (3 : Int32)) → (¬ (4 : Int32) < lo → (4 : Int32) < hi → u4 = (48 : Int32) + dgt p0 (4 : Int32)) → (¬ (5 : Int32) < lo → (5 : Int32) < hi → u5 = (48 : Int32) + dgt p0 (5 : Int32)) → (¬ (6 : Int32) < lo → (6 : Int32) < hi → u6 = (48 : Int32) + dgt p0 (6 : Int32)) → (¬ (7 : Int32) < lo → (7 : Int32) < hi → u7 = (48 : Int32) + dgt p0 (7 : Int32)) → (¬ (8 : Int32) < lo → (8 : Int32) < hi → u8 = (48 : Int32) + dgt p0 (8 : Int32)) → (¬ (9 : Int32) < lo → (9 : Int32) < hi → u9 = (48 : Int32) + dgt p0 (9 : Int32)) →  ¬ ((((((((((tm p0 (0 : Int32) lo hi) + (tm p0 (1 : Int32) lo hi)) + (tm p0 (2 : Int32) lo hi)) + (tm p0 (3 : Int32) lo hi)) + (tm p0 (4 : Int32) lo hi)) + (tm p0 (5 : Int32) lo hi)) + (tm p0 (6 : Int32) lo hi)) + (tm p0 (7 : Int32) lo hi)) + (tm p0 (8 : Int32) lo hi)) + (tm p0 (9 : Int32) lo hi)) > (2147483647 : Int64) → num10 [u0, u1, u2, u3, u4, u5, u6, u7, u8, u9] lo hi = (((((((((((tm p0 (0 : Int32) lo hi) + (tm p0 (1 : Int32) lo hi)) + (tm p0 (2 : Int32) lo hi)) + (tm p0 (3 : Int32) lo hi)) + (tm p0 (4 : Int32) lo hi)) + (tm p0 (5 : Int32) lo hi)) + (tm p0 (6 : Int32) lo hi)) + (tm p0 (7 : Int32) lo hi)) + (tm p0 (8 : Int32) lo hi)) + (tm p0 (9 : Int32) lo hi))).toInt32 := by
  intro lo hi u0 u1 u2 u3 u4 u5 u6 u7 u8 u9 h0 h1 h2 e0 e1 e2 e3 e4 e5 e6 e7 e8 e9 hgt
  clear hgt
  rcases of_rng h0 (by omega) with rfl | rfl | rfl | rfl | rfl | rfl | rfl | rfl | rfl | rfl | rfl
  · rcases of_rng (x := hi) (by have : (0 : Int32).toInt = 0 := rfl; omega) h2 with rfl | rfl | rfl | rfl | rfl | rfl | rfl | rfl | rfl | rfl | rfl
    · exact ne_0_0 p0 u0 u1 u2 u3 u4 u5 u6 u7 u8 u9
    · obtain rfl := e0 (by decide) (by decide); exact ne_0_1 p0 0 u1 u2 u3 u4 u5 u6 u7 u8 u9
    · obtain rfl := e0 (by decide) (by decide); obtain rfl := e1 (by decide) (by decide); exact ne_0_2 p0 0 0 u2 u3 u4 u5 u6 u7 u8 u9
    · obtain rfl := e0 (by decide) (by decide); obtain rfl := e1 (by decide) (by decide); obtain rfl := e2 (by decide) (by decide); exact ne_0_3 p0 0 0 0 u3 u4 u5 u6 u7 u8 u9
    · obtain rfl := e0 (by decide) (by decide); obtain rfl := e1 (by decide) (by decide); obtain rfl := e2 (by decide) (by decide); obtain rfl := e3 (by decide) (by decide); exact ne_0_4 p0 0 0 0 0 u4 u5 u6 u7 u8 u9
    · obtain rfl := e0 (by decide) (by decide); obtain rfl := e1 (by decide) (by decide); obtain rfl := e2 (by decide) (by decide); obtain rfl := e3 (by decide) (by decide); obtain rfl := e4 (by decide) (by decide); exact ne_0_5 p0 0 0 0 0 0 u5 u6 u7 u8 u9
    · obtain rfl := e0 (by decide) (by decide); obtain rfl := e1 (by decide) (by decide); obtain rfl := e2 (by decide) (by decide); obtain rfl := e3 (by decide) (by decide); obtain rfl := e4 (by decide) (by decide); obtain rfl := e5 (by decide) (by decide); exact ne_0_6 p0 0 0 0 0 0 0 u6 u7 u8 u9
    · obtain rfl := e0 (by decide) (by decide); obtain rfl := e1 (by decide) (by decide); obtain rfl := e2 (by decide) (by decide); obtain rfl := e3 (by decide) (by decide); obtain rfl := e4 (by decide) (by decide); obtain rfl := e5 (by decide) (by decide); obtain rfl := e6 (by decide) (by decide); exact ne_0_7 p0 0 0 0 0 0 0 0 u7 u8 u9
    · obtain rfl := e0 (by decide) (by decide); obtain rfl := e1 (by decide) (by decide); obtain rfl := e2 (by decide) (by decide); obtain rfl := e3 (by decide) (by decide); obtain rfl := e4 (by decide) (by decide); obtain rfl := e5 (by decide) (by decide); obtain rfl := e6 (by decide) (by decide); obtain rfl := e7 (by decide) (by decide); exact ne_0_8 p0 0 0 0 0 0 0 0 0 u8 u9
    · obtain rfl := e0 (by decide) (by decide); obtain rfl := e1 (by decide) (by decide); obtain rfl := e2 (by decide) (by decide); obtain rfl := e3 (by decide) (by decide); obtain rfl := e4 (by decide) (by decide); obtain rfl := e5 (by decide) (by decide); obtain rfl := e6 (by decide) (by decide); obtain rfl := e7 (by decide) (by decide); obtain rfl := e8 (by decide) (by decide); exact ne_0_9 p0 0 0 0 0 0 0 0 0 0 u9
    · obtain rfl := e0 (by decide) (by decide); obtain rfl := e1 (by decide) (by decide); obtain rfl := e2 (by decide) (by decide); obtain rfl := e3 (by decide) (by decide); obtain rfl := e4 (by decide) (by decide); obtain rfl := e5 (by decide) (by decide); obtain rfl := e6 (by decide) (by decide); obtain rfl := e7 (by decide) (by decide); obtain rfl := e8 (by decide) (by decide); obtain rfl := e9 (by decide) (by decide); exact ne_0_10 p0 0 0 0 0 0 0 0 0 0 0
  · rcases of_rng (x := hi) (by have : (1 : Int32).toInt = 1 := rfl; omega) h2 with rfl | rfl | rfl | rfl | rfl | rfl | rfl | rfl | rfl | rfl | rfl
    · exact absurd h1 (by decide)
    · exact ne_1_1 p0 u0 u1 u2 u3 u4 u5 u6 u7 u8 u9
    · obtain rfl := e1 (by decide) (by decide); exact ne_1_2 p0 u0 0 u2 u3 u4 u5 u6 u7 u8 u9
    · obtain rfl := e1 (by decide) (by decide); obtain rfl := e2 (by decide) (by decide); exact ne_1_3 p0 u0 0 0 u3 u4 u5 u6 u7 u8 u9
    · obtain rfl := e1 (by decide) (by decide); obtain rfl := e2 (by decide) (by decide); obtain rfl := e3 (by decide) (by decide); exact ne_1_4 p0 u0 0 0 0 u4 u5 u6 u7 u8 u9
    · obtain rfl := e1 (by decide) (by decide); obtain rfl := e2 (by decide) (by decide); obtain rfl := e3 (by decide) (by decide); obtain rfl := e4 (by decide) (by decide); exact ne_1_5 p0 u0 0 0 0 0 u5 u6 u7 u8 u9
    · obtain rfl := e1 (by decide) (by decide); obtain rfl := e2 (by decide) (by decide); obtain rfl := e3 (by decide) (by decide); obtain rfl := e4 (by decide) (by decide); obtain rfl := e5 (by decide) (by decide); exact ne_1_6 p0 u0 0 0 0 0 0 u6 u7 u8 u9
    · obtain rfl := e1 (by decide) (by decide); obtain rfl := e2 (by decide) (by decide); obtain rfl := e3 (by decide) (by decide); obtain rfl := e4 (by decide) (by decide); obtain rfl := e5 (by decide) (by decide); obtain rfl := e6 (by decide) (by decide); exact ne_1_7 p0 u0 0 0 0 0 0 0 u7 u8 u9
    · obtain rfl := e1 (by decide) (by decide); obtain rfl := e2 (by decide) (by decide); obtain rfl := e3 (by decide) (by decide); obtain rfl := e4 (by decide) (by decide); obtain rfl := e5 (by decide) (by decide); obtain rfl := e6 (by decide) (by decide); obtain rfl := e7 (by decide) (by decide); exact ne_1_8 p0 u0 0 0 0 0 0 0 0 u8 u9
    · obtain rfl := e1 (by decide) (by decide); obtain rfl := e2 (by decide) (by decide); obtain rfl := e3 (by decide) (by decide); obtain rfl := e4 (by decide) (by decide); obtain rfl := e5 (by decide) (by decide); obtain rfl := e6 (by decide) (by decide); obtain rfl := e7 (by decide) (by decide); obtain rfl := e8 (by decide) (by decide); exact ne_1_9 p0 u0 0 0 0 0 0 0 0 0 u9
    · obtain rfl := e1 (by decide) (by decide); obtain rfl := e2 (by decide) (by decide); obtain rfl := e3 (by decide) (by decide); obtain rfl := e4 (by decide) (by decide); obtain rfl := e5 (by decide) (by decide); obtain rfl := e6 (by decide) (by decide); obtain rfl := e7 (by decide) (by decide); obtain rfl := e8 (by decide) (by decide); obtain rfl := e9 (by decide) (by decide); exact ne_1_10 p0 u0 0 0 0 0 0 0 0 0 0
  · rcases of_rng (x := hi) (by have : (2 : Int32).toInt = 2 := rfl; omega) h2 with rfl | rfl | rfl | rfl | rfl | rfl | rfl | rfl | rfl | rfl | rfl
    · exact absurd h1 (by decide)
    · exact absurd h1 (by decide)
    · exact ne_2_2 p0 u0 u1 u2 u3 u4 u5 u6 u7 u8 u9
    · obtain rfl := e2 (by decide) (by decide); exact ne_2_3 p0 u0 u1 0 u3 u4 u5 u6 u7 u8 u9
    · obtain rfl := e2 (by decide) (by decide); obtain rfl := e3 (by decide) (by decide); exact ne_2_4 p0 u0 u1 0 0 u4 u5 u6 u7 u8 u9
    · obtain rfl := e2 (by decide) (by decide); obtain rfl := e3 (by decide) (by decide); obtain rfl := e4 (by decide) (by decide); exact ne_2_5 p0 u0 u1 0 0 0 u5 u6 u7 u8 u9
    · obtain rfl := e2 (by decide) (by decide); obtain rfl := e3 (by decide) (by decide); obtain rfl := e4 (by decide) (by decide); obtain rfl := e5 (by decide) (by decide); exact ne_2_6 p0 u0 u1 0 0 0 0 u6 u7 u8 u9
    · obtain rfl := e2 (by decide) (by decide); obtain rfl := e3 (by decide) (by decide); obtain rfl := e4 (by decide) (by decide); obtain rfl := e5 (by decide) (by decide); obtain rfl := e6 (by decide) (by decide); exact ne_2_7 p0 u0 u1 0 0 0 0 0 u7 u8 u9
    · obtain rfl := e2 (by decide) (by decide); obtain rfl := e3 (by decide) (by decide); obtain rfl := e4 (by decide) (by decide); obtain rfl := e5 (by decide) (by decide); obtain rfl := e6 (by decide) (by decide); obtain rfl := e7 (by decide) (by decide); exact ne_2_8 p0 u0 u1 0 0 0 0 0 0 u8 u9
    · obtain rfl := e2 (by decide) (by decide); obtain rfl := e3 (by decide) (by decide); obtain rfl := e4 (by decide) (by decide); obtain rfl := e5 (by decide) (by decide); obtain rfl := e6 (by decide) (by decide); obtain rfl := e7 (by decide) (by decide); obtain rfl := e8 (by decide) (by decide); exact ne_2_9 p0 u0 u1 0 0 0 0 0 0 0 u9
    · obtain rfl := e2 (by decide) (by decide); obtain rfl := e3 (by decide) (by decide); obtain rfl := e4 (by decide) (by decide); obtain rfl := e5 (by decide) (by decide); obtain rfl := e6 (by decide) (by decide); obtain rfl := e7 (by decide) (by decide); obtain rfl := e8 (by decide) (by decide); obtain rfl := e9 (by decide) (by decide); exact ne_2_10 p0 u0 u1 0 0 0 0 0 0 0 0
  · rcases of_rng (x := hi) (by have : (3 : Int32).toInt = 3 := rfl; omega) h2 with rfl | rfl | rfl | rfl | rfl | rfl | rfl | rfl | rfl | rfl | rfl
    · exact absurd h1 (by decide)
    · exact absurd h1 (by decide)
    · exact absurd h1 (by decide)
    · exact ne_3_3 p0 u0 u1 u2 u3 u4 u5 u6 u7 u8 u9
    · obtain rfl := e3 (by decide) (by decide); exact ne_3_4 p0 u0 u1 u2 0 u4 u5 u6 u7 u8 u9
    · obtain rfl := e3 (by decide) (by decide); obtain rfl := e4 (by decide) (by decide); exact ne_3_5 p0 u0 u1 u2 0 0 u5 u6 u7 u8 u9
    · obtain rfl := e3 (by decide) (by decide); obtain rfl := e4 (by decide) (by decide); obtain rfl := e5 (by decide) (by decide); exact ne_3_6 p0 u0 u1 u2 0 0 0 u6 u7 u8 u9
    · obtain rfl := e3 (by decide) (by decide); obtain rfl := e4 (by decide) (by decide); obtain rfl := e5 (by decide) (by decide); obtain rfl := e6 (by decide) (by decide); exact ne_3_7 p0 u0 u1 u2 0 0 0 0 u7 u8 u9
    · obtain rfl := e3 (by decide) (by decide); obtain rfl := e4 (by decide) (by decide); obtain rfl := e5 (by decide) (by decide); obtain rfl := e6 (by decide) (by decide); obtain rfl := e7 (by decide) (by decide); exact ne_3_8 p0 u0 u1 u2 0 0 0 0 0 u8 u9
    · obtain rfl := e3 (by decide) (by decide); obtain rfl := e4 (by decide) (by decide); obtain rfl := e5 (by decide) (by decide); obtain rfl := e6 (by decide) (by decide); obtain rfl := e7 (by decide) (by decide); obtain rfl := e8 (by decide) (by decide); exact ne_3_9 p0 u0 u1 u2 0 0 0 0 0 0 u9
    · obtain rfl := e3 (by decide) (by decide); obtain rfl := e4 (by decide) (by decide); obtain rfl := e5 (by decide) (by decide); obtain rfl := e6 (by decide) (by decide); obtain rfl := e7 (by decide) (by decide); obtain rfl := e8 (by decide) (by decide); obtain rfl := e9 (by decide) (by decide); exact ne_3_10 p0 u0 u1 u2 0 0 0 0 0 0 0
  · rcases of_rng (x := hi) (by have : (4 : Int32).toInt = 4 := rfl; omega) h2 with rfl | rfl | rfl | rfl | rfl | rfl | rfl | rfl | rfl | rfl | rfl
    · exact absurd h1 (by decide)
    · exact absurd h1 (by decide)
    · exact absurd h1 (by decide)
    · exact absurd h1 (by decide)
    · exact ne_4_4 p0 u0 u1 u2 u3 u4 u5 u6 u7 u8 u9
    · obtain rfl := e4 (by decide) (by decide); exact ne_4_5 p0 u0 u1 u2 u3 0 u5 u6 u7 u8 u9
    · obtain rfl := e4 (by decide) (by decide); obtain rfl := e5 (by decide) (by decide); exact ne_4_6 p0 u0 u1 u2 u3 0 0 u6 u7 u8 u9
    · obtain rfl := e4 (by decide) (by decide); obtain rfl := e5 (by decide) (by decide); obtain rfl := e6 (by decide) (by decide); exact ne_4_7 p0 u0 u1 u2 u3 0 0 0 u7 u8 u9
    · obtain rfl := e4 (by decide) (by decide); obtain rfl := e5 (by decide) (by decide); obtain rfl := e6 (by decide) (by decide); obtain rfl := e7 (by decide) (by decide); exact ne_4_8 p0 u0 u1 u2 u3 0 0 0 0 u8 u9
    · obtain rfl := e4 (by decide) (by decide); obtain rfl := e5 (by decide) (by decide); obtain rfl := e6 (by decide) (by decide); obtain rfl := e7 (by decide) (by decide); obtain rfl := e8 (by decide) (by decide); exact ne_4_9 p0 u0 u1 u2 u3 0 0 0 0 0 u9
    · obtain rfl := e4 (by decide) (by decide); obtain rfl := e5 (by decide) (by decide); obtain rfl := e6 (by decide) (by decide); obtain rfl := e7 (by decide) (by decide); obtain rfl := e8 (by decide) (by decide); obtain rfl := e9 (by decide) (by decide); exact ne_4_10 p0 u0 u1 u2 u3 0 0 0 0 0 0
  · rcases of_rng (x := hi) (by have : (5 : Int32).toInt = 5 := rfl; omega) h2 with rfl | rfl | rfl | rfl | rfl | rfl | rfl | rfl | rfl | rfl | rfl
    · exact absurd h1 (by decide)
    · exact absurd h1 (by decide)
    · exact absurd h1 (by decide)
    · exact absurd h1 (by decide)
    · exact absurd h1 (by decide)
    · exact ne_5_5 p0 u0 u1 u2 u3 u4 u5 u6 u7 u8 u9
    · obtain rfl := e5 (by decide) (by decide); exact ne_5_6 p0 u0 u1 u2 u3 u4 0 u6 u7 u8 u9
    · obtain rfl := e5 (by decide) (by decide); obtain rfl := e6 (by decide) (by decide); exact ne_5_7 p0 u0 u1 u2 u3 u4 0 0 u7 u8 u9
    · obtain rfl := e5 (by decide) (by decide); obtain rfl := e6 (by decide) (by decide); obtain rfl := e7 (by decide) (by decide); exact ne_5_8 p0 u0 u1 u2 u3 u4 0 0 0 u8 u9
    · obtain rfl := e5 (by decide) (by decide); obtain rfl := e6 (by decide) (by decide); obtain rfl := e7 (by decide) (by decide); obtain rfl := e8 (by decide) (by decide); exact ne_5_9 p0 u0 u1 u2 u3 u4 0 0 0 0 u9
    · obtain rfl := e5 (by decide) (by decide); obtain rfl := e6 (by decide) (by decide); obtain rfl := e7 (by decide) (by decide); obtain rfl := e8 (by decide) (by decide); obtain rfl := e9 (by decide) (by decide); exact ne_5_10 p0 u0 u1 u2 u3 u4 0 0 0 0 0
  · rcases of_rng (x := hi) (by have : (6 : Int32).toInt = 6 := rfl; omega) h2 with rfl | rfl | rfl | rfl | rfl | rfl | rfl | rfl | rfl | rfl | rfl
    · exact absurd h1 (by decide)
    · exact absurd h1 (by decide)
    · exact absurd h1 (by decide)
    · exact absurd h1 (by decide)
    · exact absurd h1 (by decide)
    · exact absurd h1 (by decide)
    · exact ne_6_6 p0 u0 u1 u2 u3 u4 u5 u6 u7 u8 u9
    · obtain rfl := e6 (by decide) (by decide); exact ne_6_7 p0 u0 u1 u2 u3 u4 u5 0 u7 u8 u9
    · obtain rfl := e6 (by decide) (by decide); obtain rfl := e7 (by decide) (by decide); exact ne_6_8 p0 u0 u1 u2 u3 u4 u5 0 0 u8 u9
    · obtain rfl := e6 (by decide) (by decide); obtain rfl := e7 (by decide) (by decide); obtain rfl := e8 (by decide) (by decide); exact ne_6_9 p0 u0 u1 u2 u3 u4 u5 0 0 0 u9
    · obtain rfl := e6 (by decide) (by decide); obtain rfl := e7 (by decide) (by decide); obtain rfl := e8 (by decide) (by decide); obtain rfl := e9 (by decide) (by decide); exact ne_6_10 p0 u0 u1 u2 u3 u4 u5 0 0 0 0
  · rcases of_rng (x := hi) (by have : (7 : Int32).toInt = 7 := rfl; omega) h2 with rfl | rfl | rfl | rfl | rfl | rfl | rfl | rfl | rfl | rfl | rfl
    · exact absurd h1 (by decide)
    · exact absurd h1 (by decide)
    · exact absurd h1 (by decide)
    · exact absurd h1 (by decide)
    · exact absurd h1 (by decide)
    · exact absurd h1 (by decide)
    · exact absurd h1 (by decide)
    · exact ne_7_7 p0 u0 u1 u2 u3 u4 u5 u6 u7 u8 u9
    · obtain rfl := e7 (by decide) (by decide); exact ne_7_8 p0 u0 u1 u2 u3 u4 u5 u6 0 u8 u9
    · obtain rfl := e7 (by decide) (by decide); obtain rfl := e8 (by decide) (by decide); exact ne_7_9 p0 u0 u1 u2 u3 u4 u5 u6 0 0 u9
    · obtain rfl := e7 (by decide) (by decide); obtain rfl := e8 (by decide) (by decide); obtain rfl := e9 (by decide) (by decide); exact ne_7_10 p0 u0 u1 u2 u3 u4 u5 u6 0 0 0
  · rcases of_rng (x := hi) (by have : (8 : Int32).toInt = 8 := rfl; omega) h2 with rfl | rfl | rfl | rfl | rfl | rfl | rfl | rfl | rfl | rfl | rfl
    · exact absurd h1 (by decide)
    · exact absurd h1 (by decide)
    · exact absurd h1 (by decide)
    · exact absurd h1 (by decide)
    · exact absurd h1 (by decide)
    · exact absurd h1 (by decide)
    · exact absurd h1 (by decide)
    · exact absurd h1 (by decide)
    · exact ne_8_8 p0 u0 u1 u2 u3 u4 u5 u6 u7 u8 u9
    · obtain rfl := e8 (by decide) (by decide); exact ne_8_9 p0 u0 u1 u2 u3 u4 u5 u6 u7 0 u9
    · obtain rfl := e8 (by decide) (by decide); obtain rfl := e9 (by decide) (by decide); exact ne_8_10 p0 u0 u1 u2 u3 u4 u5 u6 u7 0 0
  · rcases of_rng (x := hi) (by have : (9 : Int32).toInt = 9 := rfl; omega) h2 with rfl | rfl | rfl | rfl | rfl | rfl | rfl | rfl | rfl | rfl | rfl
    · exact absurd h1 (by decide)
    · exact absurd h1 (by decide)
    · exact absurd h1 (by decide)
    · exact absurd h1 (by decide)
    · exact absurd h1 (by decide)
    · exact absurd h1 (by decide)
    · exact absurd h1 (by decide)
    · exact absurd h1 (by decide)
    · exact absurd h1 (by decide)
    · exact ne_9_9 p0 u0 u1 u2 u3 u4 u5 u6 u7 u8 u9
    · obtain rfl := e9 (by decide) (by decide); exact ne_9_10 p0 u0 u1 u2 u3 u4 u5 u6 u7 u8 0
  · rcases of_rng (x := hi) (by have : (10 : Int32).toInt = 10 := rfl; omega) h2 with rfl | rfl | rfl | rfl | rfl | rfl | rfl | rfl | rfl | rfl | rfl
    · exact absurd h1 (by decide)
    · exact absurd h1 (by decide)
    · exact absurd h1 (by decide)
    · exact absurd h1 (by decide)
    · exact absurd h1 (by decide)
    · exact absurd h1 (by decide)
    · exact absurd h1 (by decide)
    · exact absurd h1 (by decide)
    · exact absurd h1 (by decide)
    · exact absurd h1 (by decide)
    · exact ne_10_10 p0 u0 u1 u2 u3 u4 u5 u6 u7 u8 u9

set_option maxRecDepth 65536 in
set_option maxHeartbeats 40000000 in
theorem comes_1 {Post : Tables → Env → Array Value → State → Outcome → State → Prop} (hpost : ∀ tb e args s v u, (limb_1_1.after args s (.returned v) u = true ∧ limb_1_2.after args s (.returned v) u = true ∧ True) → Framed s (.returned v) u (Jvm.fieldLocs frame_1_writes args s ++ Jvm.arrayLocs frame_1_arrays args s ++ Jvm.staticLocs frame_1_statics s) 40 320 → Post tb e args s (.returned v) u) :
    ArmFor flags0 classFile x code maxLocals ret World_1 tables_1 room_1 Calls_1 rest_1 Pre_1 Post := by
  intro l hfl _ _ p e ha hc hk s m args below hf hA hF happ hP
  obtain ⟨hcalls, hrest, hpre⟩ := hP
  obtain ⟨-, -, -, hnamed, -, -, -, hat⟩ := (Spec.applies_iff hf).mp happ
  obtain ⟨hg, hn⟩ := and_e (Cond.before_iff.mp (show (Jvm.Cond.and given_1 narrow_1).before args s = true from hpre))
  obtain ⟨h1, hg0⟩ := and_e hg
  obtain ⟨ga0, hg1⟩ := and_e hg0
  obtain ⟨ga1, hg2⟩ := and_e hg1
  obtain ⟨ga2, hg3⟩ := and_e hg2
  have ga3 := hg3
  obtain ⟨w0, w1, w2, w3, rfl⟩ : ∃ w0 w1 w2 w3 : Value, args = #[w0, w1, w2, w3] := by
    have hs : args.size = 4 := by simpa [Cond.value, given_1] using h1
    obtain ⟨L⟩ := args
    match L, hs with
    | [w0, w1, w2, w3], _ => exact ⟨w0, w1, w2, w3, rfl⟩
  have hw := fun d (hd : d ∈ tables_1) => atoms_spec (ws := Jvm.Cond.code x code maxLocals ret :: tables_1) hat d (List.mem_cons_of_mem _ hd)
  obtain ⟨hsets, hown0⟩ := atoms_of _ (rest_1_c_eq ▸ (show rest_1_c.before _ s = true from hrest))
  have hfit : Fit s := fun {y c} hc i hi => by
    obtain ⟨ha, rfl⟩ := Array.getElem?_eq_some_iff.mp hc
    have q := List.all_eq_true.mp ((Array.all_eq_true_iff_forall_mem.mp hF) _ (Array.getElem_mem ha)) i (List.mem_range.mpr hi)
    simpa [Array.getElem?_eq_getElem hi] using q
  obtain ⟨p0, ea0⟩ := isL_v ga0
  obtain rfl : w0 = (.long p0) := Option.some.inj ea0
  obtain ⟨p1, ea1⟩ := isL_v ga1
  obtain rfl : w1 = (.long p1) := Option.some.inj ea1
  obtain ⟨p2, ea2⟩ := is_v ga2
  obtain rfl : w2 = (.int p2) := Option.some.inj ea2
  obtain ⟨p3, ea3⟩ := is_v ga3
  obtain rfl : w3 = (.int p3) := Option.some.inj ea3
  have hcw := hsets _ (List.mem_of_getElem? (i := 2) rfl)
  have nG := not_v (Cond.before_iff.mp hcw)
  obtain ⟨G1, eG⟩ := is_v (Cond.before_iff.mp (hsets _ (List.mem_of_getElem? (i := 1) rfl)))
  have SG1 : Sta s s.heap "java/lang/String" "COMPACT_STRINGS" "Z" (.int G1) := Sta.start eG (Or.inl (hsets _ (List.mem_of_getElem? (i := 0) rfl)))
  have hG : ¬ (G1 = (0 : Int32)) := gotF (Cond.eq_ints eG (Term.int_eval (0))) nG
  obtain ⟨fm, eF, rfm⟩ := isR_v (Cond.before_iff.mp (hsets _ (List.mem_of_getElem? (i := 8) rfl)))
  have SFM : Sta s s.heap "jdk/internal/util/Preconditions" "SIOOBE_FORMATTER" "Ljava/util/function/BiFunction;" fm := Sta.start eF (Or.inl (hsets _ (List.mem_of_getElem? (i := 7) rfl)))
  have hEL : EW s #[(.long p0), (.long p1), (.int p2), (.int p3)] [] := EW.nil
  have hCH : CHv s [] s.vm s.heap := fun p hp => by cases hp
  obtain ⟨n, o, h1, h2, h3, _, L, rfl, ⟨rfl, N⟩, hCq, hq⟩ := c_law l s _ hw hEL s.heap (Ext.refl' _) p0 p1 p2 p3 G1 fm SG1 hG SFM rfm (num_eq p0) p e ha hc hk s m _ below hf ((Spec.applies_iff_loose hf).mp happ).1 ⟨rfl, State.Warmed39.refl s, rfl, hCH, all0⟩ trivial
  exact ⟨n, _, h1, h2, h3, hpost _ _ _ _ _ _ ⟨Cond.after_iff.mpr rfl, Cond.after_iff.mpr (eq_i res_at (Term.int_eval (1)) rfl), trivial⟩ ⟨hq.1, hCq.2 s rfl, (hq.2.2.2.sift fun y hy => Or.inr (N y hy)).mono (by decide) (by decide)⟩⟩
theorem main_1_1 : Claimed_1_1 := comes_1 fun _ _ _ _ _ _ h hF => ⟨h.1, hF⟩
theorem main_1_2 : Claimed_1_2 := comes_1 fun _ _ _ _ _ _ h hF => ⟨h.2.1, hF⟩
end Jvm.Pilot.@@N@@
namespace Jvm.Pilot.@@N@@
open Jvm Jvm.ClassFile Sem Op Lib Jvm.Free Jvm.Stand Jvm.Pilot.@@N@@.Jvm.D
/-! MADE BY PROGRAM (witnessworld.py) out of the Statement's table words and the real class files: 23 classes; the members and pool entries that the words name. The judged class is class 1, her method 6. -/
namespace start1
open Jvm.ClassFile
def u (s : String) : CpInfo := .utf8 (stringToUtf16 s)
/-- a pool by its gaps: so many unusable entries, then the entry; so many at the end -/
def gap : Nat → List CpInfo → List CpInfo
  | 0, r => r
  | n + 1, r => .unusable :: gap n r
def poolList (es : List (Nat × CpInfo)) (last : Nat) : List CpInfo := es.foldr (fun e r => gap e.1 (e.2 :: r)) (gap last [])
def pool (es : List (Nat × CpInfo)) (last : Nat) : Array CpInfo := ⟨poolList es last⟩
def fileOf (pool : Array CpInfo) (this : Nat) (attrs : Array Attribute := #[]) (ms : Array MethodInfo := #[]) (fl : Nat := 33) (sup : Nat := 0) (ifs : Array Nat := #[]) (fds : Array FieldInfo := #[]) : ClassFile where
  minorVersion := 0
  majorVersion := 65
  constantPool := pool
  accessFlags := fl
  thisClass := this
  superClass := sup
  interfaces := ifs
  fields := fds
  methods := ms
  attributes := attrs
def plain (name : String) (sup : Option ClassId) : Class where
  name := name
  kind := .ordinary
  loader := none
  accessFlags := 33
  super := sup
  interfaces := #[]
  cf := none
  fields := #[]
  methods := #[]
  instanceTypes := #[]
  staticTypes := #[]
  resolved := #[]
  callSites := []
  init := .initialized
  statics := none
  mirror := none

def pool0 : Array CpInfo := pool [(5, u "<init>"), (0, u "()V"), (1, .class_ 10), (1, u "java/lang/Object")] 113

def k0c0 : Code := { maxStack := 0, maxLocals := 1, code := object_method_1_code, exceptionTable := #[], attributes := #[] }
def k0m0 : Method := { name := "<init>", desc := "()V", sig := { parameters := [], returnType := none }, accessFlags := 1, code := some k0c0 }
/-- java/lang/Object -/
def k0 : Class := { plain "java/lang/Object" none with
  accessFlags := 33
  interfaces := #[]
  cf := some (fileOf pool0 8 #[] #[{ accessFlags := 1, nameIndex := 5, descriptorIndex := 6, attributes := #[] }] 33 0 #[] #[])
  fields := #[]
  methods := #[k0m0]
  instanceTypes := #[]
  staticTypes := #[]
  resolved := Array.replicate 124 none
  statics := none }

def pool1 : Array CpInfo := pool [(2, .class_ 4), (1, u "java/lang/Object"), (0, u "<init>"), (0, u "()V"), (0, .long 10), (1, .long 100), (1, .long 1000), (1, .long 10000), (1, .long 100000), (1, .long 1000000), (1, .long 10000000), (1, .long 100000000), (1, .long 1000000000), (1, .long 15), (1, .methodref 28 29), (0, .class_ 30), (0, .nameAndType 31 32), (0, u "com/example/kontraktbuch/kontraktbuch/NotationNumberPinLaw"), (0, u "inside"), (0, u "(III)Z"), (0, .methodref 28 34), (0, .nameAndType 35 36), (0, u "digit"), (0, u "(JI)I"), (0, .methodref 28 38), (0, .nameAndType 39 40), (0, u "pow10"), (0, u "(I)J"), (0, .methodref 42 43), (0, .class_ 44), (0, .nameAndType 45 46), (0, u "java/lang/Math"), (0, u "min"), (0, u "(II)I"), (0, .methodref 42 48), (0, .nameAndType 49 46), (0, u "max"), (0, .methodref 28 51), (0, .nameAndType 52 53), (0, u "ch"), (0, u "(IIIJI)C"), (0, .class_ 55), (0, u "java/lang/String"), (0, .methodref 54 57), (0, .nameAndType 5 58), (0, u "([C)V"), (0, .methodref 28 60), (0, .nameAndType 61 62), (0, u "term"), (0, u "(IIIJ)J"), (2, .long 2147483647), (1, .methodref 68 69), (0, .class_ 70), (0, .nameAndType 71 72), (0, u "com/example/kontraktbuch/kontraktbuch/Notation"), (0, u "number"), (0, u "(Ljava/lang/String;II)I"), (3, u "law"), (0, u "(JJII)Z")] 4

def k1m0 : Method := { name := "<init>", desc := "()V", sig := { parameters := [], returnType := none }, accessFlags := 2, code := none }
def k1c1 : Code := { maxStack := 5, maxLocals := 2, code := method_2_code, exceptionTable := #[], attributes := #[] }
def k1m1 : Method := { name := "pow10", desc := "(I)J", sig := { parameters := [.int], returnType := some .long }, accessFlags := 10, code := some k1c1 }
def k1c2 : Code := { maxStack := 4, maxLocals := 3, code := method_3_code, exceptionTable := #[], attributes := #[] }
def k1m2 : Method := { name := "digit", desc := "(JI)I", sig := { parameters := [.long, .int], returnType := some .int }, accessFlags := 10, code := some k1c2 }
def k1c3 : Code := { maxStack := 2, maxLocals := 3, code := method_4_code, exceptionTable := #[], attributes := #[] }
def k1m3 : Method := { name := "inside", desc := "(III)Z", sig := { parameters := [.int, .int, .int], returnType := some .boolean }, accessFlags := 10, code := some k1c3 }
def k1c4 : Code := { maxStack := 4, maxLocals := 6, code := method_5_code, exceptionTable := #[], attributes := #[] }
def k1m4 : Method := { name := "ch", desc := "(IIIJI)C", sig := { parameters := [.int, .int, .int, .long, .int], returnType := some .char }, accessFlags := 10, code := some k1c4 }
def k1c5 : Code := { maxStack := 4, maxLocals := 5, code := method_6_code, exceptionTable := #[], attributes := #[] }
def k1m5 : Method := { name := "term", desc := "(IIIJ)J", sig := { parameters := [.int, .int, .int, .long], returnType := some .long }, accessFlags := 10, code := some k1c5 }
def k1c6 : Code := { maxStack := 10, maxLocals := 14, code := code, exceptionTable := #[], attributes := #[] }
def k1m6 : Method := { name := "law", desc := "(JJII)Z", sig := { parameters := [.long, .long, .int, .int], returnType := some .boolean }, accessFlags := 9, code := some k1c6 }
/-- com/example/kontraktbuch/kontraktbuch/NotationNumberPinLaw -/
def k1 : Class := { plain "com/example/kontraktbuch/kontraktbuch/NotationNumberPinLaw" (some 0) with
  accessFlags := 49
  interfaces := #[]
  cf := some (fileOf pool1 28 #[] #[{ accessFlags := 2, nameIndex := 5, descriptorIndex := 6, attributes := #[] }, { accessFlags := 10, nameIndex := 39, descriptorIndex := 40, attributes := #[] }, { accessFlags := 10, nameIndex := 35, descriptorIndex := 36, attributes := #[] }, { accessFlags := 10, nameIndex := 31, descriptorIndex := 32, attributes := #[] }, { accessFlags := 10, nameIndex := 52, descriptorIndex := 53, attributes := #[] }, { accessFlags := 10, nameIndex := 61, descriptorIndex := 62, attributes := #[] }, { accessFlags := 9, nameIndex := 76, descriptorIndex := 77, attributes := #[] }] 49 2 #[] #[])
  fields := #[]
  methods := #[k1m0, k1m1, k1m2, k1m3, k1m4, k1m5, k1m6]
  instanceTypes := #[]
  staticTypes := #[]
  resolved := Array.replicate 82 none
  statics := none }

def pool2 : Array CpInfo := pool [(1, .class_ 2), (0, u "java/lang/Math"), (1, .class_ 6), (1, u "java/lang/Object"), (0, u "<init>"), (0, u "()V"), (89, .class_ 100), (1, u "java/lang/Math$RandomNumberGeneratorHolder"), (71, u "negativeZeroFloatBits"), (0, u "J"), (2, u "negativeZeroDoubleBits"), (21, u "max"), (2, u "min"), (43, u "$assertionsDisabled"), (0, u "Z"), (88, u "(II)I"), (2, u "twoToTheDoubleScaleDown"), (0, u "D"), (4, u "twoToTheDoubleScaleUp"), (9, u "E"), (3, u "PI"), (2, u "TAU"), (2, u "DEGREES_TO_RADIANS"), (0, u "RADIANS_TO_DEGREES")] 94

def k2m0 : Method := { name := "<init>", desc := "()V", sig := { parameters := [], returnType := none }, accessFlags := 2, code := none }
def k2c1 : Code := { maxStack := 2, maxLocals := 2, code := jdk_29_method_65_code, exceptionTable := #[], attributes := #[] }
def k2m1 : Method := { name := "max", desc := "(II)I", sig := { parameters := [.int, .int], returnType := some .int }, accessFlags := 9, code := some k2c1 }
def k2c2 : Code := { maxStack := 2, maxLocals := 2, code := jdk_29_method_69_code, exceptionTable := #[], attributes := #[] }
def k2m2 : Method := { name := "min", desc := "(II)I", sig := { parameters := [.int, .int], returnType := some .int }, accessFlags := 9, code := some k2c2 }
/-- java/lang/Math -/
def k2 : Class := { plain "java/lang/Math" (some 0) with
  accessFlags := 49
  interfaces := #[]
  cf := some (fileOf pool2 1 #[.nestMembers #[98]] #[{ accessFlags := 2, nameIndex := 7, descriptorIndex := 8, attributes := #[] }, { accessFlags := 9, nameIndex := 198, descriptorIndex := 335, attributes := #[] }, { accessFlags := 9, nameIndex := 201, descriptorIndex := 335, attributes := #[] }] 49 4 #[] #[{ accessFlags := 25, nameIndex := 354, descriptorIndex := 339, attributes := #[] }, { accessFlags := 25, nameIndex := 358, descriptorIndex := 339, attributes := #[] }, { accessFlags := 25, nameIndex := 361, descriptorIndex := 339, attributes := #[] }, { accessFlags := 26, nameIndex := 364, descriptorIndex := 339, attributes := #[] }, { accessFlags := 26, nameIndex := 365, descriptorIndex := 339, attributes := #[] }, { accessFlags := 26, nameIndex := 172, descriptorIndex := 173, attributes := #[] }, { accessFlags := 26, nameIndex := 176, descriptorIndex := 173, attributes := #[] }, { accessFlags := 8, nameIndex := 344, descriptorIndex := 339, attributes := #[] }, { accessFlags := 8, nameIndex := 338, descriptorIndex := 339, attributes := #[] }, { accessFlags := 4120, nameIndex := 245, descriptorIndex := 246, attributes := #[] }])
  fields := #[{ name := "E", type := .double, accessFlags := 25, slot := 0, constantValue := 0 }, { name := "PI", type := .double, accessFlags := 25, slot := 1, constantValue := 0 }, { name := "TAU", type := .double, accessFlags := 25, slot := 2, constantValue := 0 }, { name := "DEGREES_TO_RADIANS", type := .double, accessFlags := 26, slot := 3, constantValue := 0 }, { name := "RADIANS_TO_DEGREES", type := .double, accessFlags := 26, slot := 4, constantValue := 0 }, { name := "negativeZeroFloatBits", type := .long, accessFlags := 26, slot := 5, constantValue := 0 }, { name := "negativeZeroDoubleBits", type := .long, accessFlags := 26, slot := 6, constantValue := 0 }, { name := "twoToTheDoubleScaleUp", type := .double, accessFlags := 8, slot := 7, constantValue := 0 }, { name := "twoToTheDoubleScaleDown", type := .double, accessFlags := 8, slot := 8, constantValue := 0 }, { name := "$assertionsDisabled", type := .boolean, accessFlags := 4120, slot := 9, constantValue := 0 }]
  methods := #[k2m0, k2m1, k2m2]
  instanceTypes := #[]
  staticTypes := #[.double, .double, .double, .double, .double, .long, .long, .double, .double, .boolean]
  resolved := Array.replicate 460 none
  statics := none }

def pool3 : Array CpInfo := pool [(1, .class_ 2), (0, u "java/io/Serializable"), (0, .class_ 4), (0, u "java/lang/Object")] 2

/-- java/io/Serializable -/
def k3 : Class := { plain "java/io/Serializable" (some 0) with
  accessFlags := 1537
  interfaces := #[]
  cf := some (fileOf pool3 1 #[] #[] 1537 3 #[] #[])
  fields := #[]
  methods := #[]
  instanceTypes := #[]
  staticTypes := #[]
  resolved := Array.replicate 7 none
  statics := none }

def pool4 : Array CpInfo := pool [(1, .class_ 2), (0, u "java/lang/Comparable"), (0, .class_ 4), (0, u "java/lang/Object")] 7

/-- java/lang/Comparable -/
def k4 : Class := { plain "java/lang/Comparable" (some 0) with
  accessFlags := 1537
  interfaces := #[]
  cf := some (fileOf pool4 1 #[] #[] 1537 3 #[] #[])
  fields := #[]
  methods := #[]
  instanceTypes := #[]
  staticTypes := #[]
  resolved := Array.replicate 12 none
  statics := none }

def pool5 : Array CpInfo := pool [(2, .class_ 4), (1, u "java/lang/CharSequence"), (42, .class_ 48), (0, u "java/lang/CharSequence$1CodePointIterator"), (10, .class_ 60), (0, u "java/lang/CharSequence$1CharIterator"), (5, .class_ 67), (0, u "java/lang/Object")] 63

/-- java/lang/CharSequence -/
def k5 : Class := { plain "java/lang/CharSequence" (some 0) with
  accessFlags := 1537
  interfaces := #[]
  cf := some (fileOf pool5 2 #[.nestMembers #[47, 59]] #[] 1537 66 #[] #[])
  fields := #[]
  methods := #[]
  instanceTypes := #[]
  staticTypes := #[]
  resolved := Array.replicate 131 none
  statics := none }

def pool6 : Array CpInfo := pool [(1, .class_ 2), (0, u "java/lang/constant/Constable"), (0, .class_ 4), (0, u "java/lang/Object")] 6

/-- java/lang/constant/Constable -/
def k6 : Class := { plain "java/lang/constant/Constable" (some 0) with
  accessFlags := 1537
  interfaces := #[]
  cf := some (fileOf pool6 1 #[] #[] 1537 3 #[] #[])
  fields := #[]
  methods := #[]
  instanceTypes := #[]
  staticTypes := #[]
  resolved := Array.replicate 11 none
  statics := none }

def pool7 : Array CpInfo := pool [(1, .class_ 2), (0, u "java/lang/constant/ConstantDesc"), (0, .class_ 4), (0, u "java/lang/Object")] 32

/-- java/lang/constant/ConstantDesc -/
def k7 : Class := { plain "java/lang/constant/ConstantDesc" (some 0) with
  accessFlags := 1537
  interfaces := #[]
  cf := some (fileOf pool7 1 #[] #[] 1537 3 #[] #[])
  fields := #[]
  methods := #[]
  instanceTypes := #[]
  staticTypes := #[]
  resolved := Array.replicate 37 none
  statics := none }

def pool8 : Array CpInfo := pool [(1, .methodref 2 3), (0, .class_ 4), (0, .nameAndType 5 6), (0, u "java/lang/Object"), (0, u "<init>"), (0, u "()V"), (2, .fieldref 10 11), (0, .class_ 12), (0, .nameAndType 13 14), (0, u "java/lang/String"), (0, u "value"), (0, u "[B"), (0, .fieldref 10 16), (0, .nameAndType 17 18), (0, u "coder"), (0, u "B"), (2, u "hash"), (0, u "I"), (2, u "hashIsZero"), (0, u "Z"), (0, .methodref 10 28), (0, .nameAndType 5 29), (0, u "([CIILjava/lang/Void;)V"), (8, .fieldref 10 39), (0, .nameAndType 40 26), (0, u "COMPACT_STRINGS"), (1, .class_ 44), (1, u "java/lang/StringUTF16"), (0, u "compress"), (1, .methodref 42 48), (0, .nameAndType 49 50), (0, u "coderFromArrayLen"), (0, u "([BI)B"), (56, .class_ 109), (1, u "java/lang/StringLatin1"), (32, u "()Z"), (34, .methodref 42 178), (0, .nameAndType 45 179), (0, u "([CII)[B"), (183, u "([BI)C"), (27, u "(II)V"), (35, u "(I)C"), (64, .methodref 10 493), (0, .nameAndType 494 142), (0, u "isLatin1"), (0, .methodref 107 496), (0, .nameAndType 497 363), (0, u "charAt"), (3, u "checkIndex"), (73, .class_ 576), (0, u "java/lang/CharSequence"), (22, u "CASE_INSENSITIVE_ORDER"), (0, u "Ljava/util/Comparator;"), (409, u "([C)V"), (42, .fieldref 1054 1055), (0, .class_ 1056), (0, .nameAndType 1057 1058), (0, u "jdk/internal/util/Preconditions"), (0, u "SIOOBE_FORMATTER"), (0, u "Ljava/util/function/BiFunction;"), (0, .methodref 1054 1060), (0, .nameAndType 501 1061), (0, u "(IILjava/util/function/BiFunction;)I"), (39, u "serialPersistentFields"), (0, u "[Ljava/io/ObjectStreamField;"), (0, .class_ 1104), (0, u "java/lang/String$CaseInsensitiveComparator"), (1, .class_ 1107), (0, u "java/io/Serializable"), (0, .class_ 1109), (0, u "java/lang/Comparable"), (0, .class_ 1111), (0, u "java/lang/constant/Constable"), (0, .class_ 1113), (0, u "java/lang/constant/ConstantDesc"), (2, u "serialVersionUID"), (0, u "J"), (3, u "REPL"), (0, u "C"), (2, u "LATIN1"), (1, u "UTF16")] 323

def k8m0 : Method := { name := "<init>", desc := "()V", sig := { parameters := [], returnType := none }, accessFlags := 1, code := none }
def k8c1 : Code := { maxStack := 5, maxLocals := 2, code := jdk_42_method_3_code, exceptionTable := #[], attributes := #[] }
def k8m1 : Method := { name := "<init>", desc := "([C)V", sig := { parameters := [(.array .char)], returnType := none }, accessFlags := 1, code := some k8c1 }
def k8c2 : Code := { maxStack := 2, maxLocals := 2, code := jdk_42_method_56_code, exceptionTable := #[], attributes := #[] }
def k8m2 : Method := { name := "charAt", desc := "(I)C", sig := { parameters := [.int], returnType := some .char }, accessFlags := 1, code := some k8c2 }
def k8c3 : Code := { maxStack := 4, maxLocals := 6, code := jdk_42_method_149_code, exceptionTable := #[], attributes := #[] }
def k8m3 : Method := { name := "<init>", desc := "([CIILjava/lang/Void;)V", sig := { parameters := [(.array .char), .int, .int, (.object "java/lang/Void")], returnType := none }, accessFlags := 2, code := some k8c3 }
def k8c4 : Code := { maxStack := 1, maxLocals := 1, code := jdk_42_method_154_code, exceptionTable := #[], attributes := #[] }
def k8m4 : Method := { name := "isLatin1", desc := "()Z", sig := { parameters := [], returnType := some .boolean }, accessFlags := 0, code := some k8c4 }
def k8c5 : Code := { maxStack := 3, maxLocals := 2, code := jdk_42_method_155_code, exceptionTable := #[], attributes := #[] }
def k8m5 : Method := { name := "checkIndex", desc := "(II)V", sig := { parameters := [.int, .int], returnType := none }, accessFlags := 8, code := some k8c5 }
/-- java/lang/String -/
def k8 : Class := { plain "java/lang/String" (some 0) with
  accessFlags := 49
  interfaces := #[3, 4, 5, 6, 7]
  cf := some (fileOf pool8 10 #[.nestMembers #[1103]] #[{ accessFlags := 1, nameIndex := 5, descriptorIndex := 6, attributes := #[] }, { accessFlags := 1, nameIndex := 5, descriptorIndex := 1010, attributes := #[] }, { accessFlags := 1, nameIndex := 497, descriptorIndex := 427, attributes := #[] }, { accessFlags := 2, nameIndex := 5, descriptorIndex := 29, attributes := #[] }, { accessFlags := 0, nameIndex := 494, descriptorIndex := 142, attributes := #[] }, { accessFlags := 8, nameIndex := 501, descriptorIndex := 391, attributes := #[] }] 49 2 #[1106, 1108, 575, 1110, 1112] #[{ accessFlags := 18, nameIndex := 13, descriptorIndex := 14, attributes := #[] }, { accessFlags := 18, nameIndex := 17, descriptorIndex := 18, attributes := #[] }, { accessFlags := 2, nameIndex := 21, descriptorIndex := 22, attributes := #[] }, { accessFlags := 2, nameIndex := 25, descriptorIndex := 26, attributes := #[] }, { accessFlags := 26, nameIndex := 1116, descriptorIndex := 1117, attributes := #[] }, { accessFlags := 24, nameIndex := 40, descriptorIndex := 26, attributes := #[] }, { accessFlags := 26, nameIndex := 1101, descriptorIndex := 1102, attributes := #[] }, { accessFlags := 26, nameIndex := 1121, descriptorIndex := 1122, attributes := #[] }, { accessFlags := 25, nameIndex := 599, descriptorIndex := 600, attributes := #[] }, { accessFlags := 24, nameIndex := 1125, descriptorIndex := 18, attributes := #[] }, { accessFlags := 24, nameIndex := 1127, descriptorIndex := 18, attributes := #[] }])
  fields := #[{ name := "value", type := (.array .byte), accessFlags := 18, slot := 0, constantValue := 0 }, { name := "coder", type := .byte, accessFlags := 18, slot := 1, constantValue := 0 }, { name := "hash", type := .int, accessFlags := 2, slot := 2, constantValue := 0 }, { name := "hashIsZero", type := .boolean, accessFlags := 2, slot := 3, constantValue := 0 }, { name := "serialVersionUID", type := .long, accessFlags := 26, slot := 0, constantValue := 0 }, { name := "COMPACT_STRINGS", type := .boolean, accessFlags := 24, slot := 1, constantValue := 0 }, { name := "serialPersistentFields", type := (.array (.object "java/io/ObjectStreamField")), accessFlags := 26, slot := 2, constantValue := 0 }, { name := "REPL", type := .char, accessFlags := 26, slot := 3, constantValue := 0 }, { name := "CASE_INSENSITIVE_ORDER", type := (.object "java/util/Comparator"), accessFlags := 25, slot := 4, constantValue := 0 }, { name := "LATIN1", type := .byte, accessFlags := 24, slot := 5, constantValue := 0 }, { name := "UTF16", type := .byte, accessFlags := 24, slot := 6, constantValue := 0 }]
  methods := #[k8m0, k8m1, k8m2, k8m3, k8m4, k8m5]
  instanceTypes := #[(.array .byte), .byte, .int, .boolean]
  staticTypes := #[.long, .boolean, (.array (.object "java/io/ObjectStreamField")), .char, (.object "java/util/Comparator"), .byte, .byte]
  resolved := Array.replicate 1451 none
  statics := some 0 }

def pool9 : Array CpInfo := pool [(6, .class_ 8), (1, u "java/lang/Object"), (0, u "<init>"), (0, u "()V"), (1, .class_ 14), (1, u "java/lang/StringUTF16"), (31, u "$assertionsDisabled"), (0, u "Z"), (13, u "HI_BYTE_SHIFT"), (0, u "I"), (2, u "LO_BYTE_SHIFT"), (49, .methodref 12 116), (0, .nameAndType 117 118), (0, u "compress"), (0, u "([CI[BII)I"), (3, u "([CII)[B"), (138, u "coderFromArrayLen"), (0, u "([BI)B"), (106, .class_ 371), (1, u "java/lang/StringUTF16$LinesSpliterator"), (58, u "MAX_LENGTH"), (196, .class_ 628), (0, u "java/lang/StringUTF16$CodePointsSpliterator"), (0, .class_ 630), (0, u "java/lang/StringUTF16$CharsSpliterator")] 4

def k9m0 : Method := { name := "<init>", desc := "()V", sig := { parameters := [], returnType := none }, accessFlags := 0, code := none }
def k9c1 : Code := { maxStack := 2, maxLocals := 2, code := jdk_52_method_15_code, exceptionTable := #[], attributes := #[] }
def k9m1 : Method := { name := "coderFromArrayLen", desc := "([BI)B", sig := { parameters := [(.array .byte), .int], returnType := some .byte }, accessFlags := 8, code := some k9c1 }
def k9c2 : Code := { maxStack := 5, maxLocals := 6, code := jdk_52_method_16_code, exceptionTable := #[], attributes := #[] }
def k9m2 : Method := { name := "compress", desc := "([CII)[B", sig := { parameters := [(.array .char), .int, .int], returnType := some (.array .byte) }, accessFlags := 9, code := some k9c2 }
def k9c3 : Code := { maxStack := 3, maxLocals := 7, code := jdk_52_method_21_code, exceptionTable := #[], attributes := #[] }
def k9m3 : Method := { name := "compress", desc := "([CI[BII)I", sig := { parameters := [(.array .char), .int, (.array .byte), .int, .int], returnType := some .int }, accessFlags := 9, code := some k9c3 }
/-- java/lang/StringUTF16 -/
def k9 : Class := { plain "java/lang/StringUTF16" (some 0) with
  accessFlags := 48
  interfaces := #[]
  cf := some (fileOf pool9 12 #[.nestMembers #[627, 629, 369]] #[{ accessFlags := 0, nameIndex := 9, descriptorIndex := 10, attributes := #[] }, { accessFlags := 8, nameIndex := 261, descriptorIndex := 262, attributes := #[] }, { accessFlags := 9, nameIndex := 117, descriptorIndex := 122, attributes := #[] }, { accessFlags := 9, nameIndex := 117, descriptorIndex := 118, attributes := #[] }] 48 6 #[] #[{ accessFlags := 26, nameIndex := 61, descriptorIndex := 62, attributes := #[] }, { accessFlags := 26, nameIndex := 65, descriptorIndex := 62, attributes := #[] }, { accessFlags := 24, nameIndex := 430, descriptorIndex := 62, attributes := #[] }, { accessFlags := 4120, nameIndex := 46, descriptorIndex := 47, attributes := #[] }])
  fields := #[{ name := "HI_BYTE_SHIFT", type := .int, accessFlags := 26, slot := 0, constantValue := 0 }, { name := "LO_BYTE_SHIFT", type := .int, accessFlags := 26, slot := 1, constantValue := 0 }, { name := "MAX_LENGTH", type := .int, accessFlags := 24, slot := 2, constantValue := 0 }, { name := "$assertionsDisabled", type := .boolean, accessFlags := 4120, slot := 3, constantValue := 0 }]
  methods := #[k9m0, k9m1, k9m2, k9m3]
  instanceTypes := #[]
  staticTypes := #[.int, .int, .int, .boolean]
  resolved := Array.replicate 635 none
  statics := none }

def pool10 : Array CpInfo := pool [(2, .class_ 4), (1, u "java/lang/Object"), (0, u "<init>"), (0, u "()V"), (1, .class_ 10), (1, u "java/lang/String"), (3, .class_ 16), (1, u "com/example/kontraktbuch/kontraktbuch/Notation"), (2, .methodref 8 20), (0, .nameAndType 21 22), (0, u "charAt"), (0, u "(I)C"), (2, u "number"), (0, u "(Ljava/lang/String;II)I"), (33, u "MONTHS"), (0, u "Ljava/util/List;"), (12, u "WEEKDAYS"), (2, u "ORDINALS")] 93

def k10m0 : Method := { name := "<init>", desc := "()V", sig := { parameters := [], returnType := none }, accessFlags := 2, code := none }
def k10c1 : Code := { maxStack := 3, maxLocals := 5, code := prog_29_method_12_code, exceptionTable := #[], attributes := #[] }
def k10m1 : Method := { name := "number", desc := "(Ljava/lang/String;II)I", sig := { parameters := [(.object "java/lang/String"), .int, .int], returnType := some .int }, accessFlags := 8, code := some k10c1 }
/-- com/example/kontraktbuch/kontraktbuch/Notation -/
def k10 : Class := { plain "com/example/kontraktbuch/kontraktbuch/Notation" (some 0) with
  accessFlags := 49
  interfaces := #[]
  cf := some (fileOf pool10 14 #[] #[{ accessFlags := 2, nameIndex := 5, descriptorIndex := 6, attributes := #[] }, { accessFlags := 8, nameIndex := 25, descriptorIndex := 26, attributes := #[] }] 49 2 #[] #[{ accessFlags := 26, nameIndex := 60, descriptorIndex := 61, attributes := #[] }, { accessFlags := 26, nameIndex := 74, descriptorIndex := 61, attributes := #[] }, { accessFlags := 26, nameIndex := 77, descriptorIndex := 61, attributes := #[] }])
  fields := #[{ name := "MONTHS", type := (.object "java/util/List"), accessFlags := 26, slot := 0, constantValue := 0 }, { name := "WEEKDAYS", type := (.object "java/util/List"), accessFlags := 26, slot := 1, constantValue := 0 }, { name := "ORDINALS", type := (.object "java/util/List"), accessFlags := 26, slot := 2, constantValue := 0 }]
  methods := #[k10m0, k10m1]
  instanceTypes := #[]
  staticTypes := #[(.object "java/util/List"), (.object "java/util/List"), (.object "java/util/List")]
  resolved := Array.replicate 171 none
  statics := none }

def pool11 : Array CpInfo := pool [(1, .class_ 2), (0, u "java/lang/String"), (1, .class_ 6), (1, u "java/lang/Object"), (0, u "<init>"), (0, u "()V"), (0, .methodref 1 10), (0, .nameAndType 11 12), (0, u "checkIndex"), (0, u "(II)V"), (1, .class_ 16), (1, u "java/lang/StringLatin1"), (36, u "([BI)C"), (67, u "$assertionsDisabled"), (0, u "Z"), (98, .class_ 223), (1, u "java/lang/StringLatin1$LinesSpliterator"), (28, u "charAt"), (137, .class_ 391), (0, u "java/lang/StringLatin1$CharsSpliterator")] 3

def k11m0 : Method := { name := "<init>", desc := "()V", sig := { parameters := [], returnType := none }, accessFlags := 0, code := none }
def k11c1 : Code := { maxStack := 2, maxLocals := 2, code := jdk_43_method_2_code, exceptionTable := #[], attributes := #[] }
def k11m1 : Method := { name := "charAt", desc := "([BI)C", sig := { parameters := [(.array .byte), .int], returnType := some .char }, accessFlags := 9, code := some k11c1 }
/-- java/lang/StringLatin1 -/
def k11 : Class := { plain "java/lang/StringLatin1" (some 0) with
  accessFlags := 48
  interfaces := #[]
  cf := some (fileOf pool11 14 #[.nestMembers #[390, 221]] #[{ accessFlags := 0, nameIndex := 7, descriptorIndex := 8, attributes := #[] }, { accessFlags := 9, nameIndex := 252, descriptorIndex := 53, attributes := #[] }] 48 4 #[] #[{ accessFlags := 4120, nameIndex := 121, descriptorIndex := 122, attributes := #[] }])
  fields := #[{ name := "$assertionsDisabled", type := .boolean, accessFlags := 4120, slot := 0, constantValue := 0 }]
  methods := #[k11m0, k11m1]
  instanceTypes := #[]
  staticTypes := #[.boolean]
  resolved := Array.replicate 395 none
  statics := none }

def pool12 : Array CpInfo := pool [(2, .class_ 4), (1, u "java/lang/Object"), (0, u "<init>"), (0, u "()V"), (17, .class_ 26), (1, u "jdk/internal/util/Preconditions"), (6, u "checkIndex"), (21, .class_ 56), (0, u "jdk/internal/util/Preconditions$4"), (57, .class_ 115), (0, u "jdk/internal/util/Preconditions$1"), (7, u "SIOOBE_FORMATTER"), (0, u "Ljava/util/function/BiFunction;"), (0, .class_ 126), (0, u "jdk/internal/util/Preconditions$2"), (3, u "AIOOBE_FORMATTER"), (0, .class_ 132), (0, u "jdk/internal/util/Preconditions$3"), (3, u "IOOBE_FORMATTER"), (41, u "(IILjava/util/function/BiFunction;)I")] 15

def k12m0 : Method := { name := "<init>", desc := "()V", sig := { parameters := [], returnType := none }, accessFlags := 1, code := none }
def k12c1 : Code := { maxStack := 3, maxLocals := 3, code := jdk_41_method_11_code, exceptionTable := #[], attributes := #[] }
def k12m1 : Method := { name := "checkIndex", desc := "(IILjava/util/function/BiFunction;)I", sig := { parameters := [.int, .int, (.object "java/util/function/BiFunction")], returnType := some .int }, accessFlags := 9, code := some k12c1 }
/-- jdk/internal/util/Preconditions -/
def k12 : Class := { plain "jdk/internal/util/Preconditions" (some 0) with
  accessFlags := 33
  interfaces := #[]
  cf := some (fileOf pool12 24 #[.nestMembers #[55, 131, 125, 114]] #[{ accessFlags := 1, nameIndex := 5, descriptorIndex := 6, attributes := #[] }, { accessFlags := 9, nameIndex := 33, descriptorIndex := 178, attributes := #[] }] 33 2 #[] #[{ accessFlags := 25, nameIndex := 123, descriptorIndex := 124, attributes := #[] }, { accessFlags := 25, nameIndex := 130, descriptorIndex := 124, attributes := #[] }, { accessFlags := 25, nameIndex := 136, descriptorIndex := 124, attributes := #[] }])
  fields := #[{ name := "SIOOBE_FORMATTER", type := (.object "java/util/function/BiFunction"), accessFlags := 25, slot := 0, constantValue := 0 }, { name := "AIOOBE_FORMATTER", type := (.object "java/util/function/BiFunction"), accessFlags := 25, slot := 1, constantValue := 0 }, { name := "IOOBE_FORMATTER", type := (.object "java/util/function/BiFunction"), accessFlags := 25, slot := 2, constantValue := 0 }]
  methods := #[k12m0, k12m1]
  instanceTypes := #[]
  staticTypes := #[(.object "java/util/function/BiFunction"), (.object "java/util/function/BiFunction"), (.object "java/util/function/BiFunction")]
  resolved := Array.replicate 194 none
  statics := some 1 }

def pool13 : Array CpInfo := pool [(9, u "<init>"), (6, .class_ 18), (1, u "java/lang/Object"), (0, u "()V"), (1, .class_ 23), (1, u "jdk/internal/util/ArraysSupport"), (0, u "LOG2_ARRAY_LONG_INDEX_SCALE"), (0, u "I"), (2, u "U"), (0, u "Ljdk/internal/misc/Unsafe;"), (8, u "BIG_ENDIAN"), (0, u "Z"), (8, u "LOG2_BYTE_BIT_SIZE"), (4, u "LOG2_ARRAY_INT_INDEX_SCALE"), (54, u "JLA"), (0, u "Ljdk/internal/access/JavaLangAccess;"), (11, u "LOG2_ARRAY_BOOLEAN_INDEX_SCALE"), (9, u "LOG2_ARRAY_BYTE_INDEX_SCALE"), (5, u "LOG2_ARRAY_CHAR_INDEX_SCALE"), (5, u "LOG2_ARRAY_SHORT_INDEX_SCALE"), (18, u "LOG2_ARRAY_FLOAT_INDEX_SCALE"), (24, u "LOG2_ARRAY_DOUBLE_INDEX_SCALE"), (89, u "T_BOOLEAN"), (2, u "T_CHAR"), (1, u "T_FLOAT"), (1, u "T_DOUBLE"), (1, u "T_BYTE"), (1, u "T_SHORT"), (1, u "T_INT"), (1, u "T_LONG"), (1, u "SOFT_MAX_ARRAY_LENGTH")] 83

def k13m0 : Method := { name := "<init>", desc := "()V", sig := { parameters := [], returnType := none }, accessFlags := 2, code := none }
/-- jdk/internal/util/ArraysSupport -/
def k13 : Class := { plain "jdk/internal/util/ArraysSupport" (some 0) with
  accessFlags := 33
  interfaces := #[]
  cf := some (fileOf pool13 21 #[] #[{ accessFlags := 2, nameIndex := 9, descriptorIndex := 19, attributes := #[] }] 33 16 #[] #[{ accessFlags := 24, nameIndex := 28, descriptorIndex := 29, attributes := #[] }, { accessFlags := 26, nameIndex := 38, descriptorIndex := 39, attributes := #[] }, { accessFlags := 25, nameIndex := 121, descriptorIndex := 25, attributes := #[] }, { accessFlags := 25, nameIndex := 131, descriptorIndex := 25, attributes := #[] }, { accessFlags := 25, nameIndex := 137, descriptorIndex := 25, attributes := #[] }, { accessFlags := 25, nameIndex := 143, descriptorIndex := 25, attributes := #[] }, { accessFlags := 25, nameIndex := 53, descriptorIndex := 25, attributes := #[] }, { accessFlags := 25, nameIndex := 24, descriptorIndex := 25, attributes := #[] }, { accessFlags := 25, nameIndex := 162, descriptorIndex := 25, attributes := #[] }, { accessFlags := 25, nameIndex := 187, descriptorIndex := 25, attributes := #[] }, { accessFlags := 26, nameIndex := 48, descriptorIndex := 25, attributes := #[] }, { accessFlags := 25, nameIndex := 277, descriptorIndex := 25, attributes := #[] }, { accessFlags := 25, nameIndex := 280, descriptorIndex := 25, attributes := #[] }, { accessFlags := 25, nameIndex := 282, descriptorIndex := 25, attributes := #[] }, { accessFlags := 25, nameIndex := 284, descriptorIndex := 25, attributes := #[] }, { accessFlags := 25, nameIndex := 286, descriptorIndex := 25, attributes := #[] }, { accessFlags := 25, nameIndex := 288, descriptorIndex := 25, attributes := #[] }, { accessFlags := 25, nameIndex := 290, descriptorIndex := 25, attributes := #[] }, { accessFlags := 25, nameIndex := 292, descriptorIndex := 25, attributes := #[] }, { accessFlags := 26, nameIndex := 108, descriptorIndex := 109, attributes := #[] }, { accessFlags := 25, nameIndex := 294, descriptorIndex := 25, attributes := #[] }])
  fields := #[{ name := "U", type := (.object "jdk/internal/misc/Unsafe"), accessFlags := 24, slot := 0, constantValue := 0 }, { name := "BIG_ENDIAN", type := .boolean, accessFlags := 26, slot := 1, constantValue := 0 }, { name := "LOG2_ARRAY_BOOLEAN_INDEX_SCALE", type := .int, accessFlags := 25, slot := 2, constantValue := 0 }, { name := "LOG2_ARRAY_BYTE_INDEX_SCALE", type := .int, accessFlags := 25, slot := 3, constantValue := 0 }, { name := "LOG2_ARRAY_CHAR_INDEX_SCALE", type := .int, accessFlags := 25, slot := 4, constantValue := 0 }, { name := "LOG2_ARRAY_SHORT_INDEX_SCALE", type := .int, accessFlags := 25, slot := 5, constantValue := 0 }, { name := "LOG2_ARRAY_INT_INDEX_SCALE", type := .int, accessFlags := 25, slot := 6, constantValue := 0 }, { name := "LOG2_ARRAY_LONG_INDEX_SCALE", type := .int, accessFlags := 25, slot := 7, constantValue := 0 }, { name := "LOG2_ARRAY_FLOAT_INDEX_SCALE", type := .int, accessFlags := 25, slot := 8, constantValue := 0 }, { name := "LOG2_ARRAY_DOUBLE_INDEX_SCALE", type := .int, accessFlags := 25, slot := 9, constantValue := 0 }, { name := "LOG2_BYTE_BIT_SIZE", type := .int, accessFlags := 26, slot := 10, constantValue := 0 }, { name := "T_BOOLEAN", type := .int, accessFlags := 25, slot := 11, constantValue := 0 }, { name := "T_CHAR", type := .int, accessFlags := 25, slot := 12, constantValue := 0 }, { name := "T_FLOAT", type := .int, accessFlags := 25, slot := 13, constantValue := 0 }, { name := "T_DOUBLE", type := .int, accessFlags := 25, slot := 14, constantValue := 0 }, { name := "T_BYTE", type := .int, accessFlags := 25, slot := 15, constantValue := 0 }, { name := "T_SHORT", type := .int, accessFlags := 25, slot := 16, constantValue := 0 }, { name := "T_INT", type := .int, accessFlags := 25, slot := 17, constantValue := 0 }, { name := "T_LONG", type := .int, accessFlags := 25, slot := 18, constantValue := 0 }, { name := "JLA", type := (.object "jdk/internal/access/JavaLangAccess"), accessFlags := 26, slot := 19, constantValue := 0 }, { name := "SOFT_MAX_ARRAY_LENGTH", type := .int, accessFlags := 25, slot := 20, constantValue := 0 }]
  methods := #[k13m0]
  instanceTypes := #[]
  staticTypes := #[(.object "jdk/internal/misc/Unsafe"), .boolean, .int, .int, .int, .int, .int, .int, .int, .int, .int, .int, .int, .int, .int, .int, .int, .int, .int, (.object "jdk/internal/access/JavaLangAccess"), .int]
  resolved := Array.replicate 378 none
  statics := none }

def pool14 : Array CpInfo := pool [(1, u "java/lang/Cloneable"), (0, .class_ 1), (0, u "java/lang/Object"), (0, .class_ 3)] 3

/-- java/lang/Cloneable -/
def k14 : Class := { plain "java/lang/Cloneable" (some 0) with
  accessFlags := 1537
  interfaces := #[]
  cf := some (fileOf pool14 2 #[] #[] 1537 4 #[] #[])
  fields := #[]
  methods := #[]
  instanceTypes := #[]
  staticTypes := #[]
  resolved := Array.replicate 8 none
  statics := none }

/-- the primitive byte -/
def k15 : Class := { plain "byte" none with kind := .primitive 'B', accessFlags := 0x411 }
/-- [B -/
def k16 : Class := { plain "[B" (some 0) with kind := .array 15 .byte, interfaces := #[14, 3], accessFlags := 1041 }

/-- the primitive char -/
def k17 : Class := { plain "char" none with kind := .primitive 'C', accessFlags := 0x411 }
/-- [C -/
def k18 : Class := { plain "[C" (some 0) with kind := .array 17 .char, interfaces := #[14, 3], accessFlags := 1041 }

/-- the primitive int -/
def k19 : Class := { plain "int" none with kind := .primitive 'I', accessFlags := 0x411 }
/-- [I -/
def k20 : Class := { plain "[I" (some 0) with kind := .array 19 .int, interfaces := #[14, 3], accessFlags := 1041 }

/-- the primitive long -/
def k21 : Class := { plain "long" none with kind := .primitive 'J', accessFlags := 0x411 }
/-- [J -/
def k22 : Class := { plain "[J" (some 0) with kind := .array 21 .long, interfaces := #[14, 3], accessFlags := 1041 }

def heap : Heap := #[{ cls := 8, slots := #[.long 0, .int 1, .null, .int 0, .null, .int 0, .int 0], vm := .statics 8 },
  { cls := 12, slots := #[.null, .null, .null], vm := .statics 12 }]
def classes : Array Class := #[k0, k1, k2, k3, k4, k5, k6, k7, k8, k9, k10, k11, k12, k13, k14, k15, k16, k17, k18, k19, k20, k21, k22]
def interned : List (Array UInt16 × Addr) := []
def slotsUsed : Nat := 10
def theMethod : MethodId := ⟨1, 6⟩
def args0 : Array Value := #[.long 5, .long 5, .int 5, .int 52]
def aboutOver (below : List Frame) : State where
  vm := { classes := classes, interned := interned.toArray }
  heap := heap
  slotsUsed := slotsUsed
  threads := #[{ frames := .invoking theMethod args0 :: below }]
def below0 : List Frame := [.native { method := ⟨0, 0⟩, args := #[] }]
def about1 : State := aboutOver below0
def p0 : Program := .bare "" "" ""
def e0 : Env := launch0.env 0 0 0
theorem w_frames : about1.frames = Frame.invoking theMethod args0 :: below0 := rfl
set_option maxRecDepth 65536 in
theorem w_args : argsFit about1.vm theMethod args0 = true := by decide +kernel
set_option maxRecDepth 65536 in
theorem w_heap : heapFits about1 = true := by decide +kernel
set_option maxRecDepth 65536 in
theorem w_runnable : about1.curStatus? = some .runnable := by decide +kernel
set_option maxRecDepth 65536 in
theorem w_alone : about1.alone = true := by decide +kernel
set_option maxRecDepth 65536 in
theorem w_named : about1.methodNamed? x = some theMethod := by decide +kernel
set_option maxRecDepth 65536 in
theorem w_hears : about1.hears theMethod below0 = true := by decide +kernel
set_option maxRecDepth 65536 in
theorem w_ripe : about1.ripe theMethod args0 below0 = true := by decide +kernel
theorem w_running : about1.status = .running := rfl
set_option maxRecDepth 65536 in
theorem w_room : about1.hasRoom e0.platform room_1 = true :=
  launch0.hasRoom_least _ room_1 (by decide +kernel) (by decide +kernel) (by decide +kernel) (by decide +kernel) (by decide +kernel) (by decide +kernel)
theorem allAtoms_all (ts : List Jvm.Cond) (a : Array Jvm.Value) (st : Jvm.State) : (allAtoms ts).before a st = ts.all (fun c => c.before a st) := by
  induction ts with
  | nil => rfl
  | cons c t ih =>
    show (Jvm.Cond.and c (allAtoms t)).before a st = _
    rw [Jvm.Cond.before_and, ih, List.all_cons]
def words1 : List Jvm.Cond := Jvm.Cond.code x code maxLocals ret :: tables_1
/-- a 'code' word, met by the world's own term for the bytes: nothing is compared byte by byte -/
theorem code_word {y : MethodName} {bytes : ByteArray} {mx : Nat} {rt : Option FieldType} {a : Array Value} {s : State} {m : MethodId} {meth : Method} {c : Code} (h1 : s.methodNamed? y = some m) (h2 : s.vm.method? m = some meth) (h3 : meth.code = some c) (h4 : c.code = bytes)
    (h5 : (c.maxLocals == mx && c.exceptionTable.isEmpty && decide (c.maxStack ≤ mostOperands) && decide (meth.sig.returnType = rt) && !meth.locks && decide (parseMethodDescriptor y.desc = some meth.sig)) = true) : (Jvm.Cond.code y bytes mx rt).before a s = true := by
  simp only [Bool.and_eq_true, beq_iff_eq, Bool.not_eq_true', decide_eq_true_eq] at h5
  obtain ⟨⟨⟨⟨⟨g1, g2⟩, g3⟩, g4⟩, g5⟩, g6⟩ := h5
  simp [Cond.before, Cond.holds, Cond.value, h1, h2, h3, h4, g1, g2, g3, g4, g5, g6]
def isCode : Jvm.Cond → Bool
  | .code _ _ _ _ => true
  | _ => false
theorem all_split {L : List Jvm.Cond} {P : Jvm.Cond → Bool} (h1 : L.all (fun c => isCode c || P c) = true) (h2 : ∀ c ∈ L.filter isCode, P c = true) : L.all P = true := by
  refine List.all_eq_true.mpr fun c hc => ?_
  have h := List.all_eq_true.mp h1 c hc
  rcases Bool.eq_false_or_eq_true (isCode c) with hi | hi
  · exact h2 c (List.mem_filter.mpr ⟨hc, hi⟩)
  · simpa [hi] using h
set_option maxRecDepth 65536 in
theorem w_c0 : (Jvm.Cond.code x code maxLocals ret).before args0 about1 = true := code_word (m := ⟨1, 6⟩) (meth := k1m6) (c := k1c6) (by decide +kernel) rfl rfl rfl (by decide +kernel)
set_option maxRecDepth 65536 in
theorem w_c1 : (Jvm.Cond.code ({ cls := "java/lang/Math", name := "min", desc := "(II)I" } : Jvm.MethodName) jdk_29_method_69_code (2 : Nat) (Option.some Jvm.ClassFile.FieldType.int)).before args0 about1 = true := code_word (m := ⟨2, 2⟩) (meth := k2m2) (c := k2c2) (by decide +kernel) rfl rfl rfl (by decide +kernel)
set_option maxRecDepth 65536 in
theorem w_c2 : (Jvm.Cond.code ({ cls := "java/lang/Math", name := "max", desc := "(II)I" } : Jvm.MethodName) jdk_29_method_65_code (2 : Nat) (Option.some Jvm.ClassFile.FieldType.int)).before args0 about1 = true := code_word (m := ⟨2, 1⟩) (meth := k2m1) (c := k2c1) (by decide +kernel) rfl rfl rfl (by decide +kernel)
set_option maxRecDepth 65536 in
theorem w_c3 : (Jvm.Cond.code ({ cls := "com/example/kontraktbuch/kontraktbuch/NotationNumberPinLaw", name := "ch", desc := "(IIIJI)C" } : Jvm.MethodName) method_5_code (6 : Nat) (Option.some Jvm.ClassFile.FieldType.char)).before args0 about1 = true := code_word (m := ⟨1, 4⟩) (meth := k1m4) (c := k1c4) (by decide +kernel) rfl rfl rfl (by decide +kernel)
set_option maxRecDepth 65536 in
theorem w_c4 : (Jvm.Cond.code ({ cls := "com/example/kontraktbuch/kontraktbuch/NotationNumberPinLaw", name := "inside", desc := "(III)Z" } : Jvm.MethodName) method_4_code (3 : Nat) (Option.some Jvm.ClassFile.FieldType.boolean)).before args0 about1 = true := code_word (m := ⟨1, 3⟩) (meth := k1m3) (c := k1c3) (by decide +kernel) rfl rfl rfl (by decide +kernel)
set_option maxRecDepth 65536 in
theorem w_c5 : (Jvm.Cond.code ({ cls := "com/example/kontraktbuch/kontraktbuch/NotationNumberPinLaw", name := "digit", desc := "(JI)I" } : Jvm.MethodName) method_3_code (3 : Nat) (Option.some Jvm.ClassFile.FieldType.int)).before args0 about1 = true := code_word (m := ⟨1, 2⟩) (meth := k1m2) (c := k1c2) (by decide +kernel) rfl rfl rfl (by decide +kernel)
set_option maxRecDepth 65536 in
theorem w_c6 : (Jvm.Cond.code ({ cls := "java/lang/String", name := "<init>", desc := "([C)V" } : Jvm.MethodName) jdk_42_method_3_code (2 : Nat) (Option.none : Option Jvm.ClassFile.FieldType)).before args0 about1 = true := code_word (m := ⟨8, 1⟩) (meth := k8m1) (c := k8c1) (by decide +kernel) rfl rfl rfl (by decide +kernel)
set_option maxRecDepth 65536 in
theorem w_c7 : (Jvm.Cond.code ({ cls := "java/lang/String", name := "<init>", desc := "([CIILjava/lang/Void;)V" } : Jvm.MethodName) jdk_42_method_149_code (6 : Nat) (Option.none : Option Jvm.ClassFile.FieldType)).before args0 about1 = true := code_word (m := ⟨8, 3⟩) (meth := k8m3) (c := k8c3) (by decide +kernel) rfl rfl rfl (by decide +kernel)
set_option maxRecDepth 65536 in
theorem w_c8 : (Jvm.Cond.code ({ cls := "java/lang/Object", name := "<init>", desc := "()V" } : Jvm.MethodName) object_method_1_code (1 : Nat) (Option.none : Option Jvm.ClassFile.FieldType)).before args0 about1 = true := code_word (m := ⟨0, 0⟩) (meth := k0m0) (c := k0c0) (by decide +kernel) rfl rfl rfl (by decide +kernel)
set_option maxRecDepth 65536 in
theorem w_c9 : (Jvm.Cond.code ({ cls := "java/lang/StringUTF16", name := "compress", desc := "([CII)[B" } : Jvm.MethodName) jdk_52_method_16_code (6 : Nat) (Option.some (Jvm.ClassFile.FieldType.array Jvm.ClassFile.FieldType.byte))).before args0 about1 = true := code_word (m := ⟨9, 2⟩) (meth := k9m2) (c := k9c2) (by decide +kernel) rfl rfl rfl (by decide +kernel)
set_option maxRecDepth 65536 in
theorem w_c10 : (Jvm.Cond.code ({ cls := "java/lang/StringUTF16", name := "compress", desc := "([CI[BII)I" } : Jvm.MethodName) jdk_52_method_21_code (7 : Nat) (Option.some Jvm.ClassFile.FieldType.int)).before args0 about1 = true := code_word (m := ⟨9, 3⟩) (meth := k9m3) (c := k9c3) (by decide +kernel) rfl rfl rfl (by decide +kernel)
set_option maxRecDepth 65536 in
theorem w_c11 : (Jvm.Cond.code ({ cls := "java/lang/StringUTF16", name := "coderFromArrayLen", desc := "([BI)B" } : Jvm.MethodName) jdk_52_method_15_code (2 : Nat) (Option.some Jvm.ClassFile.FieldType.byte)).before args0 about1 = true := code_word (m := ⟨9, 1⟩) (meth := k9m1) (c := k9c1) (by decide +kernel) rfl rfl rfl (by decide +kernel)
set_option maxRecDepth 65536 in
theorem w_c12 : (Jvm.Cond.code ({ cls := "com/example/kontraktbuch/kontraktbuch/NotationNumberPinLaw", name := "term", desc := "(IIIJ)J" } : Jvm.MethodName) method_6_code (5 : Nat) (Option.some Jvm.ClassFile.FieldType.long)).before args0 about1 = true := code_word (m := ⟨1, 5⟩) (meth := k1m5) (c := k1c5) (by decide +kernel) rfl rfl rfl (by decide +kernel)
set_option maxRecDepth 65536 in
theorem w_c13 : (Jvm.Cond.code ({ cls := "com/example/kontraktbuch/kontraktbuch/NotationNumberPinLaw", name := "pow10", desc := "(I)J" } : Jvm.MethodName) method_2_code (2 : Nat) (Option.some Jvm.ClassFile.FieldType.long)).before args0 about1 = true := code_word (m := ⟨1, 1⟩) (meth := k1m1) (c := k1c1) (by decide +kernel) rfl rfl rfl (by decide +kernel)
set_option maxRecDepth 65536 in
theorem w_c14 : (Jvm.Cond.code ({ cls := "com/example/kontraktbuch/kontraktbuch/Notation", name := "number", desc := "(Ljava/lang/String;II)I" } : Jvm.MethodName) prog_29_method_12_code (5 : Nat) (Option.some Jvm.ClassFile.FieldType.int)).before args0 about1 = true := code_word (m := ⟨10, 1⟩) (meth := k10m1) (c := k10c1) (by decide +kernel) rfl rfl rfl (by decide +kernel)
set_option maxRecDepth 65536 in
theorem w_c15 : (Jvm.Cond.code ({ cls := "java/lang/String", name := "charAt", desc := "(I)C" } : Jvm.MethodName) jdk_42_method_56_code (2 : Nat) (Option.some Jvm.ClassFile.FieldType.char)).before args0 about1 = true := code_word (m := ⟨8, 2⟩) (meth := k8m2) (c := k8c2) (by decide +kernel) rfl rfl rfl (by decide +kernel)
set_option maxRecDepth 65536 in
theorem w_c16 : (Jvm.Cond.code ({ cls := "java/lang/String", name := "isLatin1", desc := "()Z" } : Jvm.MethodName) jdk_42_method_154_code (1 : Nat) (Option.some Jvm.ClassFile.FieldType.boolean)).before args0 about1 = true := code_word (m := ⟨8, 4⟩) (meth := k8m4) (c := k8c4) (by decide +kernel) rfl rfl rfl (by decide +kernel)
set_option maxRecDepth 65536 in
theorem w_c17 : (Jvm.Cond.code ({ cls := "java/lang/StringLatin1", name := "charAt", desc := "([BI)C" } : Jvm.MethodName) jdk_43_method_2_code (2 : Nat) (Option.some Jvm.ClassFile.FieldType.char)).before args0 about1 = true := code_word (m := ⟨11, 1⟩) (meth := k11m1) (c := k11c1) (by decide +kernel) rfl rfl rfl (by decide +kernel)
set_option maxRecDepth 65536 in
theorem w_c18 : (Jvm.Cond.code ({ cls := "java/lang/String", name := "checkIndex", desc := "(II)V" } : Jvm.MethodName) jdk_42_method_155_code (2 : Nat) (Option.none : Option Jvm.ClassFile.FieldType)).before args0 about1 = true := code_word (m := ⟨8, 5⟩) (meth := k8m5) (c := k8c5) (by decide +kernel) rfl rfl rfl (by decide +kernel)
set_option maxRecDepth 65536 in
theorem w_c19 : (Jvm.Cond.code ({ cls := "jdk/internal/util/Preconditions", name := "checkIndex", desc := "(IILjava/util/function/BiFunction;)I" } : Jvm.MethodName) jdk_41_method_11_code (3 : Nat) (Option.some Jvm.ClassFile.FieldType.int)).before args0 about1 = true := code_word (m := ⟨12, 1⟩) (meth := k12m1) (c := k12c1) (by decide +kernel) rfl rfl rfl (by decide +kernel)
def codes1 : List Jvm.Cond := [Jvm.Cond.code x code maxLocals ret, Jvm.Cond.code ({ cls := "java/lang/Math", name := "min", desc := "(II)I" } : Jvm.MethodName) jdk_29_method_69_code (2 : Nat) (Option.some Jvm.ClassFile.FieldType.int), Jvm.Cond.code ({ cls := "java/lang/Math", name := "max", desc := "(II)I" } : Jvm.MethodName) jdk_29_method_65_code (2 : Nat) (Option.some Jvm.ClassFile.FieldType.int), Jvm.Cond.code ({ cls := "com/example/kontraktbuch/kontraktbuch/NotationNumberPinLaw", name := "ch", desc := "(IIIJI)C" } : Jvm.MethodName) method_5_code (6 : Nat) (Option.some Jvm.ClassFile.FieldType.char), Jvm.Cond.code ({ cls := "com/example/kontraktbuch/kontraktbuch/NotationNumberPinLaw", name := "inside", desc := "(III)Z" } : Jvm.MethodName) method_4_code (3 : Nat) (Option.some Jvm.ClassFile.FieldType.boolean), Jvm.Cond.code ({ cls := "com/example/kontraktbuch/kontraktbuch/NotationNumberPinLaw", name := "digit", desc := "(JI)I" } : Jvm.MethodName) method_3_code (3 : Nat) (Option.some Jvm.ClassFile.FieldType.int), Jvm.Cond.code ({ cls := "java/lang/String", name := "<init>", desc := "([C)V" } : Jvm.MethodName) jdk_42_method_3_code (2 : Nat) (Option.none : Option Jvm.ClassFile.FieldType), Jvm.Cond.code ({ cls := "java/lang/String", name := "<init>", desc := "([CIILjava/lang/Void;)V" } : Jvm.MethodName) jdk_42_method_149_code (6 : Nat) (Option.none : Option Jvm.ClassFile.FieldType), Jvm.Cond.code ({ cls := "java/lang/Object", name := "<init>", desc := "()V" } : Jvm.MethodName) object_method_1_code (1 : Nat) (Option.none : Option Jvm.ClassFile.FieldType), Jvm.Cond.code ({ cls := "java/lang/StringUTF16", name := "compress", desc := "([CII)[B" } : Jvm.MethodName) jdk_52_method_16_code (6 : Nat) (Option.some (Jvm.ClassFile.FieldType.array Jvm.ClassFile.FieldType.byte)), Jvm.Cond.code ({ cls := "java/lang/StringUTF16", name := "compress", desc := "([CI[BII)I" } : Jvm.MethodName) jdk_52_method_21_code (7 : Nat) (Option.some Jvm.ClassFile.FieldType.int), Jvm.Cond.code ({ cls := "java/lang/StringUTF16", name := "coderFromArrayLen", desc := "([BI)B" } : Jvm.MethodName) jdk_52_method_15_code (2 : Nat) (Option.some Jvm.ClassFile.FieldType.byte), Jvm.Cond.code ({ cls := "com/example/kontraktbuch/kontraktbuch/NotationNumberPinLaw", name := "term", desc := "(IIIJ)J" } : Jvm.MethodName) method_6_code (5 : Nat) (Option.some Jvm.ClassFile.FieldType.long), Jvm.Cond.code ({ cls := "com/example/kontraktbuch/kontraktbuch/NotationNumberPinLaw", name := "pow10", desc := "(I)J" } : Jvm.MethodName) method_2_code (2 : Nat) (Option.some Jvm.ClassFile.FieldType.long), Jvm.Cond.code ({ cls := "com/example/kontraktbuch/kontraktbuch/Notation", name := "number", desc := "(Ljava/lang/String;II)I" } : Jvm.MethodName) prog_29_method_12_code (5 : Nat) (Option.some Jvm.ClassFile.FieldType.int), Jvm.Cond.code ({ cls := "java/lang/String", name := "charAt", desc := "(I)C" } : Jvm.MethodName) jdk_42_method_56_code (2 : Nat) (Option.some Jvm.ClassFile.FieldType.char), Jvm.Cond.code ({ cls := "java/lang/String", name := "isLatin1", desc := "()Z" } : Jvm.MethodName) jdk_42_method_154_code (1 : Nat) (Option.some Jvm.ClassFile.FieldType.boolean), Jvm.Cond.code ({ cls := "java/lang/StringLatin1", name := "charAt", desc := "([BI)C" } : Jvm.MethodName) jdk_43_method_2_code (2 : Nat) (Option.some Jvm.ClassFile.FieldType.char), Jvm.Cond.code ({ cls := "java/lang/String", name := "checkIndex", desc := "(II)V" } : Jvm.MethodName) jdk_42_method_155_code (2 : Nat) (Option.none : Option Jvm.ClassFile.FieldType), Jvm.Cond.code ({ cls := "jdk/internal/util/Preconditions", name := "checkIndex", desc := "(IILjava/util/function/BiFunction;)I" } : Jvm.MethodName) jdk_41_method_11_code (3 : Nat) (Option.some Jvm.ClassFile.FieldType.int)]
set_option maxRecDepth 65536 in
theorem codes_eq : words1.filter isCode = codes1 := rfl
theorem w_codes : ∀ c ∈ words1.filter isCode, c.before args0 about1 = true := by
  rw [codes_eq]
  intro c hc
  simp only [codes1, List.mem_cons, List.not_mem_nil, or_false] at hc
  rcases hc with rfl | rfl | rfl | rfl | rfl | rfl | rfl | rfl | rfl | rfl | rfl | rfl | rfl | rfl | rfl | rfl | rfl | rfl | rfl | rfl
  · exact w_c0
  · exact w_c1
  · exact w_c2
  · exact w_c3
  · exact w_c4
  · exact w_c5
  · exact w_c6
  · exact w_c7
  · exact w_c8
  · exact w_c9
  · exact w_c10
  · exact w_c11
  · exact w_c12
  · exact w_c13
  · exact w_c14
  · exact w_c15
  · exact w_c16
  · exact w_c17
  · exact w_c18
  · exact w_c19
set_option maxRecDepth 65536 in
theorem w_t1 : (words1.take 24).all (fun c => isCode c || c.before args0 about1) = true := by decide +kernel
set_option maxRecDepth 65536 in
theorem w_t2 : ((words1.drop 24).take 24).all (fun c => isCode c || c.before args0 about1) = true := by decide +kernel
set_option maxRecDepth 65536 in
theorem w_t3 : (((words1.drop 24).drop 24).take 24).all (fun c => isCode c || c.before args0 about1) = true := by decide +kernel
set_option maxRecDepth 65536 in
theorem w_t4 : (((words1.drop 24).drop 24).drop 24).all (fun c => isCode c || c.before args0 about1) = true := by decide +kernel
theorem w_tables : (allAtoms (Jvm.Cond.code x code maxLocals ret :: tables_1)).before args0 about1 = true := by
  rw [allAtoms_all]
  show words1.all (fun c => c.before args0 about1) = true
  refine all_split ?_ w_codes
  rw [← List.take_append_drop 24 words1, List.all_append, w_t1, ← List.take_append_drop 24 (words1.drop 24), List.all_append, w_t2, ← List.take_append_drop 24 ((words1.drop 24).drop 24), List.all_append, w_t3, w_t4]
  rfl
set_option maxRecDepth 65536 in
theorem w_rest : rest_1_c.before args0 about1 = true := by decide +kernel
set_option maxRecDepth 65536 in
theorem w_case : (Jvm.Cond.and given_1 narrow_1).before args0 about1 = true := by decide +kernel
theorem w_applies : (headSpec (Jvm.Cond.code x code maxLocals ret :: tables_1) room_1).applies x e0.platform about1 = true :=
  (Spec.applies_iff w_frames).mpr ⟨w_running, w_runnable, w_alone, w_named, w_hears, w_ripe, w_room, w_tables⟩
theorem atStart : AtStart classFile x code maxLocals ret World_1 tables_1 room_1 Calls_1 rest_1 Pre_1 launch0 p0 e0 about1 theMethod args0 below0 :=
  ⟨lists_1, trivial, launch0.admits_env _ _ _, launch0.least_env, fairChoices_fair.cas, fairChoices_fair.clock, w_frames, w_args, w_heap, w_applies, trivial, w_rest, w_case⟩
end start1
theorem witness_1 : WitnessClaimed_1 := ⟨start1.p0, start1.e0, start1.about1, start1.theMethod, start1.args0, start1.below0, start1.atStart⟩
end Jvm.Pilot.@@N@@
