import JvmDerived
import JvmDerived.Pilot.@@N@@Statement
import JvmDerived.Pilot.@@N@@Code
set_option linter.unusedVariables false
set_option linter.unusedSimpArgs false
/- laws to paste: Road.backV, Road.codOf (cut by pick.py; bodies as the Statement names them) -/
namespace Jvm.Pilot.@@N@@
namespace StrChars
open Jvm Sem ClassFile Op Lib Jvm.Stand Jvm.Free.XT Jvm.Free.ALB Jvm.Free.JM Jvm.Free
open Jvm.Lib.Cold (StaticIs)
/-- a char array whose places are chars -/
def Ch (a : Addr) (A : Cell) (U : State) : Prop := Arr .char a A U ∧ Typed .char A
theorem Ch.mv {a : Addr} {A : Cell} {U U' : State} (h : Ch a A U) (hal : U.vm.Alike U'.vm) (hh : U'.heap = U.heap) : Ch a A U' := ⟨h.1.mv hal hh, h.2⟩
theorem Ch.keep {a : Addr} {A : Cell} {U U' : State} (h : Ch a A U) (hal : U.vm.Alike U'.vm) (hk : U'.heap[a]? = some A) : Ch a A U' := ⟨h.1.keep hal hk, h.2⟩
/-- what place i of a char[]'s cell holds -/
def cv (A : Cell) (i : Nat) : Int32 := match A.slots[i]? with | some (.int x) => x | _ => 0
theorem Ch.get {a : Addr} {A : Cell} {U : State} (h : Ch a A U) {i : Nat} (hi : i < A.slots.size) : A.slots[i]? = some (.int (cv A i)) := by
  have e := Array.getElem?_eq_getElem hi
  have f := h.2 i _ e
  unfold cv; rw [e]
  generalize A.slots[i] = v at f
  cases v <;> simp [fits] at f ⊢
/-- the byte that i2b leaves of a char -/
def lo8 (x : Int32) : Int32 := x.toInt8.toInt32
theorem fits_lo8 (y : Int32) : fits .byte (.int (lo8 y)) = true := by
  have h1 := y.toInt8.le_toInt
  have h2 := y.toInt8.toInt_lt
  simp only [lo8, fits, Bool.and_eq_true, decide_eq_true_eq, Int32.le_iff_toInt_le, Int8.toInt_toInt32, show (-128 : Int32).toInt = -128 from by decide, show (127 : Int32).toInt = 127 from by decide]
  omega
/-- A' is A but that each place j of lo .. hi - 1 holds f j -/
def Laid (A A' : Cell) (lo hi : Nat) (f : Nat → Value) : Prop := A'.cls = A.cls ∧ A'.vm = A.vm ∧ A'.slots.size = A.slots.size ∧ ∀ i, A'.slots[i]? = if lo ≤ i ∧ i < hi then some (f i) else A.slots[i]?
theorem Laid.zero (A : Cell) (lo : Nat) (f : Nat → Value) : Laid A A lo (lo + 0) f := ⟨rfl, rfl, rfl, fun i => by rw [if_neg (by omega)]⟩
theorem Laid.step {A Ak : Cell} {lo k : Nat} {f : Nat → Value} {v : Value} (h : Laid A Ak lo k f) (hlo : lo ≤ k) (hk : k < Ak.slots.size) (hv : v = f k) : Laid A (Ak.setSlot k v) lo (k + 1) f := by
  refine ⟨h.1, h.2.1, by simpa [Cell.setSlot] using h.2.2.1, fun i => ?_⟩
  by_cases e : k = i
  · subst e; rw [Cell.slots_setSlot_self v hk, if_pos (by omega), hv]
  · rw [Cell.slots_setSlot_ne v e, h.2.2.2 i]
    by_cases q : lo ≤ i ∧ i < k
    · rw [if_pos q, if_pos (by omega)]
    · rw [if_neg q, if_neg (by omega)]
def U16 : String := "java/lang/StringUTF16"
namespace Cmp5
def yN : MethodName := ⟨"java/lang/StringUTF16", "compress", "([CI[BII)I"⟩
abbrev yB : ByteArray := jdk_52_method_21_code
theorem d0 : decode yB 0 = .ok (.iconst 0, 1) := by decide +kernel
theorem d1 : decode yB 1 = .ok (.istore 5, 2) := by decide +kernel
theorem d3 : decode yB 3 = .ok (.iload 5, 2) := by decide +kernel
theorem d5 : decode yB 5 = .ok (.iload 4, 2) := by decide +kernel
theorem d7 : decode yB 7 = .ok (.if_icmp (.ge) 37, 3) := by decide +kernel
theorem d10 : decode yB 10 = .ok (.aload_n 0, 1) := by decide +kernel
theorem d11 : decode yB 11 = .ok (.iload_n 1, 1) := by decide +kernel
theorem d12 : decode yB 12 = .ok (.caload, 1) := by decide +kernel
theorem d13 : decode yB 13 = .ok (.istore 6, 2) := by decide +kernel
theorem d15 : decode yB 15 = .ok (.iload 6, 2) := by decide +kernel
theorem d17 : decode yB 17 = .ok (.sipush 255, 3) := by decide +kernel
theorem d20 : decode yB 20 = .ok (.if_icmp (.le) 6, 3) := by decide +kernel
theorem d26 : decode yB 26 = .ok (.aload_n 2, 1) := by decide +kernel
theorem d27 : decode yB 27 = .ok (.iload_n 3, 1) := by decide +kernel
theorem d28 : decode yB 28 = .ok (.iload 6, 2) := by decide +kernel
theorem d30 : decode yB 30 = .ok (.i2b, 1) := by decide +kernel
theorem d31 : decode yB 31 = .ok (.bastore, 1) := by decide +kernel
theorem d32 : decode yB 32 = .ok (.iinc 1 1, 3) := by decide +kernel
theorem d35 : decode yB 35 = .ok (.iinc 3 1, 3) := by decide +kernel
theorem d38 : decode yB 38 = .ok (.iinc 5 1, 3) := by decide +kernel
theorem d41 : decode yB 41 = .ok (.goto (-38), 3) := by decide +kernel
theorem d44 : decode yB 44 = .ok (.iload 4, 2) := by decide +kernel
theorem d46 : decode yB 46 = .ok (.ireturn, 1) := by decide +kernel
def site : List Cond := []
def tab : Cond := tabOf yN yB 7 (some .int) site
def P (b : Addr) (A : Cell) (d : Addr) (B : Cell) (o q len : Nat) (args : Array Value) (s : State) : Prop := args = #[.ref b, .int (Int32.ofNat o), .ref d, .int (Int32.ofNat q), .int (Int32.ofNat len)] ∧ Ch b A s ∧ Arr .byte d B s ∧ b ≠ d ∧ o + len ≤ A.slots.size ∧ q + len ≤ B.slots.size ∧ ∀ i, i < len → ¬ 255 < cv A (o + i)
def E (b : Addr) (A : Cell) (d : Addr) (B : Cell) (o q len : Nat) (r : Option Value) (s u : State) : Prop := r = some (.int (Int32.ofNat len)) ∧ ∃ B', Put d B' s u ∧ Laid B B' q (q + len) (fun j => Value.int (lo8 (cv A (o + (j - q)))))
/-- no char of the range above 255: len; the places written hold each char's low byte -/
theorem law (l : Launch) (b : Addr) (A : Cell) (d : Addr) (B : Cell) (o q len : Nat) : Law l yN 5 5 0 0 yB 7 (some .int) site (P b A d B o q len) (E b A d B o q len) (copyLocs d q len) 0 0 := by
  refine Law.of_walk (plainFor_of_name (by decide +kernel)) (by decide +kernel) (by decide +kernel) (by decide) (fun _ _ h => by rw [h.1]; rfl) (fun _ U U' hal hh h => ⟨h.1, h.2.1.mv hal hh, h.2.2.1.mv hal hh, h.2.2.2⟩) (fun r U U' V V' h1 hal h2 h => ⟨h.1, h.2.elim fun B' q => ⟨B', q.1.mv h1 h2, q.2⟩⟩) ?_
  intro p e s m args below meth c s₁ X0 hexec hbytes hml hret hlk hnm hown hh0 W hP
  obtain ⟨rfl, hA, hB, hne, l1, l2, hp⟩ := hP
  have c1 : Steps p.tables e below (s₁.setTop (entryFrame m #[.ref b, .int (Int32.ofNat o), .ref d, .int (Int32.ofNat q), .int (Int32.ofNat len)] 7)) (s₁.setTop (mkF m 0 #[.val (.ref b), .val (.int (Int32.ofNat o)), .val (.ref d), .val (.int (Int32.ofNat q)), .val (.int (Int32.ofNat len)), .unset, .unset] [])) := entry rfl
  have hA0 := hA.1.mv X0.warmed.alike hh0
  have hB0 := hB.mv X0.warmed.alike hh0
  have a31 := hA.1.2.2.2
  have c2 : Steps p.tables e below (s₁.setTop (entryFrame m #[.ref b, .int (Int32.ofNat o), .ref d, .int (Int32.ofNat q), .int (Int32.ofNat len)] 7)) (s₁.setTop (mkF m 3 #[.val (.ref b), .val (.int (Int32.ofNat o)), .val (.ref d), .val (.int (Int32.ofNat q)), .val (.int (Int32.ofNat len)), .val (.int 0), .unset] [])) := c1.trans (by
    refine iconstV X0.here hexec rfl 0 (hb hbytes d0) (by decide) ?_
    refine XS.istore X0.here hexec rfl (hb hbytes d1) rfl rfl ?_
    exact Steps.refl _)
  have loop : ∀ (r i : Nat), i + r = len → ∀ (z : Slot), (z = .unset ∨ ∃ w, z = .val w ∧ w.category = 1) → ∀ (Tl : State) (Bk : Cell), Stand p l e { frames := 0, locals := 0, cells := 0, slots := 0 } s m #[.ref b, .int (Int32.ofNat o), .ref d, .int (Int32.ofNat q), .int (Int32.ofNat len)] below meth c Tl ([] ++ copyLocs d q i) 0 0 → Put d Bk s₁ Tl → Laid B Bk q (q + i) (fun j => Value.int (lo8 (cv A (o + (j - q))))) →
      Steps p.tables e below (s₁.setTop (entryFrame m #[.ref b, .int (Int32.ofNat o), .ref d, .int (Int32.ofNat q), .int (Int32.ofNat len)] 7)) (Tl.setTop (mkF m 3 #[.val (.ref b), .val (.int (Int32.ofNat (o + i))), .val (.ref d), .val (.int (Int32.ofNat (q + i))), .val (.int (Int32.ofNat len)), .val (.int (Int32.ofNat i)), z] [])) → ∃ (T' : State) (B' : Cell) (z' : Slot), Stand p l e { frames := 0, locals := 0, cells := 0, slots := 0 } s m #[.ref b, .int (Int32.ofNat o), .ref d, .int (Int32.ofNat q), .int (Int32.ofNat len)] below meth c T' ([] ++ copyLocs d q len) 0 0 ∧ Put d B' s₁ T' ∧ Laid B B' q (q + len) (fun j => Value.int (lo8 (cv A (o + (j - q))))) ∧
      Steps p.tables e below (s₁.setTop (entryFrame m #[.ref b, .int (Int32.ofNat o), .ref d, .int (Int32.ofNat q), .int (Int32.ofNat len)] 7)) (T'.setTop (mkF m 3 #[.val (.ref b), .val (.int (Int32.ofNat (o + len))), .val (.ref d), .val (.int (Int32.ofNat (q + len))), .val (.int (Int32.ofNat len)), .val (.int (Int32.ofNat len)), z'] [])) := by
    intro r
    induction r with
    | zero =>
      intro i hi z hz Tl Bk Xl pl fl cl
      have hil : i = len := by omega
      rw [hil] at Xl fl cl
      exact ⟨Tl, Bk, z, Xl, pl, fl, cl⟩
    | succ r ih =>
      intro i hi z hz Tl Bk Xl pl fl cl
      have all := X0.warmed.alike.symm.trans Xl.warmed.alike
      have hAl := hA0.keep all (pl.other hne hA0.1)
      have hBk := hB0.like all pl.1 fl.1 fl.2.1 fl.2.2.1
      have hlt : q + i < Bk.slots.size := by rw [fl.2.2.1]; omega
      have c3 : Steps p.tables e below (s₁.setTop (entryFrame m #[.ref b, .int (Int32.ofNat o), .ref d, .int (Int32.ofNat q), .int (Int32.ofNat len)] 7)) (Tl.setTop (mkF m 12 #[.val (.ref b), .val (.int (Int32.ofNat (o + i))), .val (.ref d), .val (.int (Int32.ofNat (q + i))), .val (.int (Int32.ofNat len)), .val (.int (Int32.ofNat i)), z] [.int (Int32.ofNat (o + i)), .ref b])) := cl.trans (by
        refine XS.iload Xl.here hexec rfl (hb hbytes d3) rfl ?_
        refine XS.iload Xl.here hexec rfl (hb hbytes d5) rfl ?_
        refine XS.icmpNo Xl.here hexec rfl (hb hbytes d7) rfl (ii_ge_f (lt32 (by omega) (by omega))) ?_
        refine XS.aloadN Xl.here hexec rfl (hb hbytes d10) rfl rfl ?_
        refine XS.iloadN Xl.here hexec rfl (hb hbytes d11) rfl ?_
        exact Steps.refl _)
      have c4 : Steps p.tables e below (s₁.setTop (entryFrame m #[.ref b, .int (Int32.ofNat o), .ref d, .int (Int32.ofNat q), .int (Int32.ofNat len)] 7)) (Tl.setTop (mkF m 13 #[.val (.ref b), .val (.int (Int32.ofNat (o + i))), .val (.ref d), .val (.int (Int32.ofNat (q + i))), .val (.int (Int32.ofNat len)), .val (.int (Int32.ofNat i)), z] [.int (cv A (o + i))])) := c3.trans (by
        refine Xl.aget hexec hAl rfl (hA.get (i := o + i) (by omega)) rfl rfl (hb hbytes d12) ?_
        exact Steps.refl _)
      have c5 : Steps p.tables e below (s₁.setTop (entryFrame m #[.ref b, .int (Int32.ofNat o), .ref d, .int (Int32.ofNat q), .int (Int32.ofNat len)] 7)) (Tl.setTop (mkF m 15 #[.val (.ref b), .val (.int (Int32.ofNat (o + i))), .val (.ref d), .val (.int (Int32.ofNat (q + i))), .val (.int (Int32.ofNat len)), .val (.int (Int32.ofNat i)), .val (.int (cv A (o + i)))] [])) := c4.trans (by
        refine XS.istoreS Xl.here hexec rfl (hb hbytes d13) rfl rfl hz ?_
        exact Steps.refl _)
      have c6 : Steps p.tables e below (s₁.setTop (entryFrame m #[.ref b, .int (Int32.ofNat o), .ref d, .int (Int32.ofNat q), .int (Int32.ofNat len)] 7)) (Tl.setTop (mkF m 31 #[.val (.ref b), .val (.int (Int32.ofNat (o + i))), .val (.ref d), .val (.int (Int32.ofNat (q + i))), .val (.int (Int32.ofNat len)), .val (.int (Int32.ofNat i)), .val (.int (cv A (o + i)))] [.int (lo8 (cv A (o + i))), .int (Int32.ofNat (q + i)), .ref d])) := c5.trans (by
        refine XS.iload Xl.here hexec rfl (hb hbytes d15) rfl ?_
        refine sipushV Xl.here hexec rfl 255 (hb hbytes d17) (by decide) ?_
        refine XS.icmpYes Xl.here hexec rfl (pc0 := 20) rfl (hb hbytes d20) rfl (ii_le_t (hp i (by omega))) (by decide) rfl ?_
        refine XS.aloadN Xl.here hexec rfl (hb hbytes d26) rfl rfl ?_
        refine XS.iloadN Xl.here hexec rfl (hb hbytes d27) rfl ?_
        refine XS.iload Xl.here hexec rfl (hb hbytes d28) rfl ?_
        refine i2b Xl.here hexec rfl (hb hbytes d30) rfl ?_
        exact Steps.refl _)
      obtain ⟨T7, X7, p7, st7⟩ := Xl.aput hexec hBk rfl hlt rfl (fits_lo8 (cv A (o + i))) (g := (mkF m 31 #[.val (.ref b), .val (.int (Int32.ofNat (o + i))), .val (.ref d), .val (.int (Int32.ofNat (q + i))), .val (.int (Int32.ofNat len)), .val (.int (Int32.ofNat i)), .val (.int (cv A (o + i)))] [.int (lo8 (cv A (o + i))), .int (Int32.ofNat (q + i)), .ref d])) rfl (rest := []) rfl (hb hbytes d31)
      have c8 : Steps p.tables e below (s₁.setTop (entryFrame m #[.ref b, .int (Int32.ofNat o), .ref d, .int (Int32.ofNat q), .int (Int32.ofNat len)] 7)) (T7.setTop (mkF m 32 #[.val (.ref b), .val (.int (Int32.ofNat (o + i))), .val (.ref d), .val (.int (Int32.ofNat (q + i))), .val (.int (Int32.ofNat len)), .val (.int (Int32.ofNat i)), .val (.int (cv A (o + i)))] [])) := c6.trans (st7 _ (Steps.refl _))
      have c9 : Steps p.tables e below (s₁.setTop (entryFrame m #[.ref b, .int (Int32.ofNat o), .ref d, .int (Int32.ofNat q), .int (Int32.ofNat len)] 7)) (T7.setTop (mkF m 3 #[.val (.ref b), .val (.int (Int32.ofNat (o + i) + 1)), .val (.ref d), .val (.int (Int32.ofNat (q + i) + 1)), .val (.int (Int32.ofNat len)), .val (.int (Int32.ofNat i + 1)), .val (.int (cv A (o + i)))] [])) := c8.trans (by
        refine iincV X7.here hexec rfl 1 (hb hbytes d32) (by decide) rfl rfl ?_
        refine iincV X7.here hexec rfl 1 (hb hbytes d35) (by decide) rfl rfl ?_
        refine iincV X7.here hexec rfl 1 (hb hbytes d38) (by decide) rfl rfl ?_
        refine XS.goto X7.here hexec rfl (pc0 := 41) rfl (hb hbytes d41) (by decide) rfl ?_
        exact Steps.refl _)
      have c10 : Steps p.tables e below (s₁.setTop (entryFrame m #[.ref b, .int (Int32.ofNat o), .ref d, .int (Int32.ofNat q), .int (Int32.ofNat len)] 7)) (T7.setTop (mkF m 3 #[.val (.ref b), .val (.int (Int32.ofNat (o + (i + 1)))), .val (.ref d), .val (.int (Int32.ofNat (q + (i + 1)))), .val (.int (Int32.ofNat len)), .val (.int (Int32.ofNat (i + 1))), .val (.int (cv A (o + i)))] [])) := by
        have := c9
        rw [succ32, succ32, succ32] at this
        exact this
      exact ih (i + 1) (by omega) _ (Or.inr ⟨_, rfl, rfl⟩) T7 _ (by rw [copyLocs_step, ← List.append_assoc]; exact X7) (pl.trans p7) (fl.step (by omega) hlt (by simp)) c10
  obtain ⟨T9, B9, z9, X9, p9, f9, g9⟩ := loop len 0 (by omega) .unset (Or.inl rfl) s₁ B (by simpa [copyLocs] using X0) ⟨hB0.1, fun _ _ => rfl, rfl⟩ (Laid.zero _ _ _) c2
  have c11 : Steps p.tables e below (s₁.setTop (entryFrame m #[.ref b, .int (Int32.ofNat o), .ref d, .int (Int32.ofNat q), .int (Int32.ofNat len)] 7)) (T9.setTop (mkF m 46 #[.val (.ref b), .val (.int (Int32.ofNat (o + len))), .val (.ref d), .val (.int (Int32.ofNat (q + len))), .val (.int (Int32.ofNat len)), .val (.int (Int32.ofNat len)), z9] [.int (Int32.ofNat len)])) := g9.trans (by
    refine XS.iload X9.here hexec rfl (hb hbytes d3) rfl ?_
    refine XS.iload X9.here hexec rfl (hb hbytes d5) rfl ?_
    refine XS.icmpYes X9.here hexec rfl (pc0 := 7) rfl (hb hbytes d7) rfl (ii_ge_t (nlt32 (by omega) (Nat.le_refl _))) (by decide) rfl ?_
    refine XS.iload X9.here hexec rfl (hb hbytes d44) rfl ?_
    exact Steps.refl _)
  exact ⟨T9, some (.int (Int32.ofNat len)), _, _, _, X9, by simp, rfl, rfl, (fun h => by cases h), ⟨rfl, B9, p9.from hh0, f9⟩, fun fs hl => c11.trans (X9.ireturnOut hexec hret rfl (Or.inl rfl) (hb hbytes d46) hl)⟩
end Cmp5
namespace Cmp3
def yN : MethodName := ⟨"java/lang/StringUTF16", "compress", "([CII)[B"⟩
abbrev yB : ByteArray := jdk_52_method_16_code
theorem d0 : decode yB 0 = .ok (.iload_n 2, 1) := by decide +kernel
theorem d1 : decode yB 1 = .ok (.newarray .byte, 2) := by decide +kernel
theorem d3 : decode yB 3 = .ok (.astore_n 3, 1) := by decide +kernel
theorem d4 : decode yB 4 = .ok (.aload_n 0, 1) := by decide +kernel
theorem d5 : decode yB 5 = .ok (.iload_n 1, 1) := by decide +kernel
theorem d6 : decode yB 6 = .ok (.aload_n 3, 1) := by decide +kernel
theorem d7 : decode yB 7 = .ok (.iconst 0, 1) := by decide +kernel
theorem d8 : decode yB 8 = .ok (.iload_n 2, 1) := by decide +kernel
theorem d9 : decode yB 9 = .ok (.invokestatic 115, 3) := by decide +kernel
theorem d12 : decode yB 12 = .ok (.istore 4, 2) := by decide +kernel
theorem d14 : decode yB 14 = .ok (.iload 4, 2) := by decide +kernel
theorem d16 : decode yB 16 = .ok (.iload_n 2, 1) := by decide +kernel
theorem d17 : decode yB 17 = .ok (.if_icmp (.eq) 40, 3) := by decide +kernel
theorem d57 : decode yB 57 = .ok (.aload_n 3, 1) := by decide +kernel
theorem d58 : decode yB 58 = .ok (.areturn, 1) := by decide +kernel
def site : List Cond := [.arrayClass .byte, Cmp5.tab] ++ staticW U16 115 Cmp5.yN
def tab : Cond := tabOf yN yB 6 (some (.array .byte)) site
def P (b : Addr) (A : Cell) (o len : Nat) (args : Array Value) (s : State) : Prop := args = #[.ref b, .int (Int32.ofNat o), .int (Int32.ofNat len)] ∧ Ch b A s ∧ o + len ≤ A.slots.size ∧ len ≤ 536870912 ∧ ∀ i, i < len → ¬ 255 < cv A (o + i)
def E (b : Addr) (A : Cell) (o len : Nat) (r : Option Value) (s u : State) : Prop := NewArr .byte "[B" len (fun j => .int (lo8 (cv A (o + j)))) r s u ∧ u.heap.size = s.heap.size + 1
/-- no char of the range above 255: a new byte[] of their low bytes -/
theorem law (l : Launch) (b : Addr) (A : Cell) (o len : Nat) : Law l yN 3 3 1 18 yB 6 (some (.array .byte)) site (P b A o len) (E b A o len) [] 1 len := by
  refine Law.of_walk (plainFor_of_name (by decide +kernel)) (by decide +kernel) (by decide +kernel) (by decide) (fun _ _ h => by rw [h.1]; rfl) (fun _ U U' hal hh h => ⟨h.1, h.2.1.mv hal hh, h.2.2⟩) (fun r U U' V V' h1 hal h2 h => ⟨NewArr.mv r U U' V V' h1 hal h2 h.1, by rw [h1, h2]; exact h.2⟩) ?_
  intro p e s m args below meth c s₁ X0 hexec hbytes hml hret hlk hnm hown hh0 W hP
  obtain ⟨rfl, hA, l1, l2, hp⟩ := hP
  have a31 := hA.1.2.2.2
  have c1 : Steps p.tables e below (s₁.setTop (entryFrame m #[.ref b, .int (Int32.ofNat o), .int (Int32.ofNat len)] 6)) (s₁.setTop (mkF m 0 #[.val (.ref b), .val (.int (Int32.ofNat o)), .val (.int (Int32.ofNat len)), .unset, .unset, .unset] [])) := entry rfl
  have c2 : Steps p.tables e below (s₁.setTop (entryFrame m #[.ref b, .int (Int32.ofNat o), .int (Int32.ofNat len)] 6)) (s₁.setTop (mkF m 1 #[.val (.ref b), .val (.int (Int32.ofNat o)), .val (.int (Int32.ofNat len)), .unset, .unset, .unset] [.int (Int32.ofNat len)])) := c1.trans (by
    refine XS.iloadN X0.here hexec rfl (hb hbytes d0) rfl ?_
    exact Steps.refl _)
  obtain ⟨T3, B3, X3, ba3, bs3, bv3, bh3, bf3, st3⟩ := X0.anew hexec (atype := .byte) (wk W (.arrayClass .byte)) rfl (by show len * 1 ≤ _; omega) (by omega) (g := (mkF m 1 #[.val (.ref b), .val (.int (Int32.ofNat o)), .val (.int (Int32.ofNat len)), .unset, .unset, .unset] [.int (Int32.ofNat len)])) rfl (hb hbytes d1) (rest := []) rfl (Nat.le_refl _) (by show 0 + len ≤ len; omega)
  rw [hh0] at ba3 st3
  have kp3 : XT.Kept s T3 := (XT.Kept.of_eq hh0).push bh3
  have hA3 := hA.keep X3.warmed.alike (kp3 _ _ hA.1.1)
  have hne : b ≠ s.heap.size := hA.1.ne
  have c4 : Steps p.tables e below (s₁.setTop (entryFrame m #[.ref b, .int (Int32.ofNat o), .int (Int32.ofNat len)] 6)) (T3.setTop (mkF m 3 #[.val (.ref b), .val (.int (Int32.ofNat o)), .val (.int (Int32.ofNat len)), .unset, .unset, .unset] [.ref s.heap.size])) := c2.trans (st3 _ (Steps.refl _))
  have c5 : Steps p.tables e below (s₁.setTop (entryFrame m #[.ref b, .int (Int32.ofNat o), .int (Int32.ofNat len)] 6)) (T3.setTop (mkF m 9 #[.val (.ref b), .val (.int (Int32.ofNat o)), .val (.int (Int32.ofNat len)), .val (.ref s.heap.size), .unset, .unset] [.int (Int32.ofNat len), .int 0, .ref s.heap.size, .int (Int32.ofNat o), .ref b])) := c4.trans (by
    refine XS.astoreN X3.here hexec rfl (hb hbytes d3) rfl rfl rfl ?_
    refine XS.aloadN X3.here hexec rfl (hb hbytes d4) rfl rfl ?_
    refine XS.iloadN X3.here hexec rfl (hb hbytes d5) rfl ?_
    refine XS.aloadN X3.here hexec rfl (hb hbytes d6) rfl rfl ?_
    refine iconstV X3.here hexec rfl 0 (hb hbytes d7) (by decide) ?_
    refine XS.iloadN X3.here hexec rfl (hb hbytes d8) rfl ?_
    exact Steps.refl _)
  obtain ⟨v6, T6, X6, E6, g6⟩ := X3.callS hexec (Cmp5.law l b A s.heap.size B3 o 0 len) hown (wks W (staticW U16 115 Cmp5.yN)) (wk W Cmp5.tab) (W := 0) (Nat.le_of_ble_eq_true rfl) (Nat.le_of_ble_eq_true rfl) (Nat.le_refl _) (by show 0 + len + 0 ≤ len; omega) (g := (mkF m 9 #[.val (.ref b), .val (.int (Int32.ofNat o)), .val (.int (Int32.ofNat len)), .val (.ref s.heap.size), .unset, .unset] [.int (Int32.ofNat len), .int (Int32.ofNat 0), .ref s.heap.size, .int (Int32.ofNat o), .ref b])) rfl (by rw [hml]; rfl) c5 (argsL := [.ref b, .int (Int32.ofNat o), .ref s.heap.size, .int (Int32.ofNat 0), .int (Int32.ofNat len)]) (rest := []) rfl rfl (by show 2 * 0 + 0 ≤ _; decide) (hb hbytes d9) (⟨rfl, hA3, ba3, hne, l1, by rw [bs3]; simp, hp⟩)
  obtain ⟨rfl, B6, p6, f6⟩ := E6
  have c7 : Steps p.tables e below (s₁.setTop (entryFrame m #[.ref b, .int (Int32.ofNat o), .int (Int32.ofNat len)] 6)) (T6.setTop (mkF m 12 #[.val (.ref b), .val (.int (Int32.ofNat o)), .val (.int (Int32.ofNat len)), .val (.ref s.heap.size), .unset, .unset] [.int (Int32.ofNat len)])) := g6
  have c8 : Steps p.tables e below (s₁.setTop (entryFrame m #[.ref b, .int (Int32.ofNat o), .int (Int32.ofNat len)] 6)) (T6.setTop (mkF m 58 #[.val (.ref b), .val (.int (Int32.ofNat o)), .val (.int (Int32.ofNat len)), .val (.ref s.heap.size), .val (.int (Int32.ofNat len)), .unset] [.ref s.heap.size])) := c7.trans (by
    refine XS.istore X6.here hexec rfl (hb hbytes d12) rfl rfl ?_
    refine XS.iload X6.here hexec rfl (hb hbytes d14) rfl ?_
    refine XS.iloadN X6.here hexec rfl (hb hbytes d16) rfl ?_
    refine XS.icmpYes X6.here hexec rfl (pc0 := 17) rfl (hb hbytes d17) rfl (ii_eq_t rfl) (by decide) rfl ?_
    refine XS.aloadN X6.here hexec rfl (hb hbytes d57) rfl rfl ?_
    exact Steps.refl _)
  have X8 := X6.wide (L' := []) (cells' := 1) (slots' := len) (fun x hx hlt => by
    simp only [List.nil_append, copyLocs, List.mem_map, List.mem_range] at hx
    obtain ⟨i, -, rfl⟩ := hx
    exact absurd hlt (Nat.lt_irrefl _)) (Nat.le_refl _) (by omega)
  exact ⟨T6, some (.ref s.heap.size), _, _, _, X8, rfl, rfl, rfl, (fun h => by cases h), ⟨⟨rfl, B6, ba3.like (X3.warmed.alike.symm.trans X6.warmed.alike) p6.1 f6.1 f6.2.1 f6.2.2.1, f6.2.1.trans bv3, by rw [X6.warmed.alike.findClass, f6.1]; exact bf3, by rw [f6.2.2.1, bs3]; simp, fun j hj => by rw [f6.2.2.2 j, if_pos (by omega)]; rfl, kp3.put p6 (Nat.le_refl _)⟩, by rw [p6.2.2, bh3, hh0]; simp⟩, fun fs hl => c8.trans (X8.areturnOut hexec rfl hret rfl (hb hbytes d58) hl)⟩
end Cmp3
namespace CodL
def yN : MethodName := ⟨"java/lang/StringUTF16", "coderFromArrayLen", "([BI)B"⟩
abbrev yB : ByteArray := jdk_52_method_15_code
theorem d0 : decode yB 0 = .ok (.iload_n 1, 1) := by decide +kernel
theorem d1 : decode yB 1 = .ok (.aload_n 0, 1) := by decide +kernel
theorem d2 : decode yB 2 = .ok (.arraylength, 1) := by decide +kernel
theorem d3 : decode yB 3 = .ok (.isub, 1) := by decide +kernel
theorem d4 : decode yB 4 = .ok (.bipush 31, 2) := by decide +kernel
theorem d6 : decode yB 6 = .ok (.iushr, 1) := by decide +kernel
theorem d7 : decode yB 7 = .ok (.i2b, 1) := by decide +kernel
theorem d8 : decode yB 8 = .ok (.ireturn, 1) := by decide +kernel
def site : List Cond := []
def tab : Cond := tabOf yN yB 2 (some .byte) site
def P (d : Addr) (B : Cell) (args : Array Value) (s : State) : Prop := args = #[.ref d, .int (Int32.ofNat B.slots.size)] ∧ Arr .byte d B s
def E (r : Option Value) (s u : State) : Prop := XT.PureE (some (.int 0)) r s u
/-- an array as long as the number of chars: LATIN1 -/
theorem law (l : Launch) (d : Addr) (B : Cell) : Law l yN 2 2 0 0 yB 2 (some .byte) site (P d B) E [] 0 0 := by
  refine Law.of_walk (plainFor_of_name (by decide +kernel)) (by decide +kernel) (by decide +kernel) (by decide) (fun _ _ h => by rw [h.1]; rfl) (fun _ U U' hal hh h => ⟨h.1, h.2.mv hal hh⟩) (fun r U U' V V' h1 hal h2 h => XT.PureE.mv r U U' V V' h1 hal h2 h) ?_
  intro p e s m args below meth c s₁ X0 hexec hbytes hml hret hlk hnm hown hh0 W hP
  obtain ⟨rfl, hB⟩ := hP
  have hB0 := hB.mv X0.warmed.alike hh0
  have c1 : Steps p.tables e below (s₁.setTop (entryFrame m #[.ref d, .int (Int32.ofNat B.slots.size)] 2)) (s₁.setTop (mkF m 0 #[.val (.ref d), .val (.int (Int32.ofNat B.slots.size))] [])) := entry rfl
  have c2 : Steps p.tables e below (s₁.setTop (entryFrame m #[.ref d, .int (Int32.ofNat B.slots.size)] 2)) (s₁.setTop (mkF m 2 #[.val (.ref d), .val (.int (Int32.ofNat B.slots.size))] [.ref d, .int (Int32.ofNat B.slots.size)])) := c1.trans (by
    refine XS.iloadN X0.here hexec rfl (hb hbytes d0) rfl ?_
    refine XS.aloadN X0.here hexec rfl (hb hbytes d1) rfl rfl ?_
    exact Steps.refl _)
  have c3 : Steps p.tables e below (s₁.setTop (entryFrame m #[.ref d, .int (Int32.ofNat B.slots.size)] 2)) (s₁.setTop (mkF m 8 #[.val (.ref d), .val (.int (Int32.ofNat B.slots.size))] [.int (lo8 (ushr (Int32.ofNat B.slots.size - Int32.ofNat B.slots.size) 31))])) := c2.trans (by
    refine X0.alen hexec hB0 rfl rfl (hb hbytes d2) ?_
    refine XS.isub X0.here hexec rfl (hb hbytes d3) rfl ?_
    refine bipushV X0.here hexec rfl 31 (hb hbytes d4) (by decide) ?_
    refine iushr X0.here hexec rfl (hb hbytes d6) rfl ?_
    refine i2b X0.here hexec rfl (hb hbytes d7) rfl ?_
    exact Steps.refl _)
  have e0 : lo8 (ushr (Int32.ofNat B.slots.size - Int32.ofNat B.slots.size) 31) = 0 := by rw [Int32.sub_self]; decide
  rw [e0] at c3
  exact ⟨s₁, some (.int 0), _, _, _, X0, rfl, rfl, rfl, (fun h => by cases h), ⟨rfl, hh0⟩, fun fs hl => c3.trans (X0.ireturnOut hexec hret rfl (Or.inr (Or.inr (Or.inl rfl))) (hb hbytes d8) hl)⟩
end CodL
/-- the String at a is Latin-1 over a new byte[] (the heap's one new cell): the low bytes of the len chars of A from o on; every cell but a is kept -/
def Got (a : Addr) (D : Cell) (fV fC : Field) (A : Cell) (o len : Nat) (r : Option Value) (s u : State) : Prop := r = none ∧ ∃ D' V : Cell, Blank "java/lang/String" a D' u ∧ Same D D' [fV.slot, fC.slot] ∧ D'.slots[fV.slot]? = some (.ref s.heap.size) ∧ D'.slots[fC.slot]? = some (.int 0) ∧ Arr .byte s.heap.size V u ∧ V.vm = .none ∧ u.vm.findClass "[B" = some V.cls ∧ V.slots.size = len ∧ (∀ j, j < len → V.slots[j]? = some (.int (lo8 (cv A (o + j))))) ∧ (∀ (y : Addr) (c : Cell), y ≠ a → s.heap[y]? = some c → u.heap[y]? = some c) ∧ u.heap.size = s.heap.size + 1
theorem Got.mv {a : Addr} {D A : Cell} {fV fC : Field} {o len : Nat} : ∀ r (U U' V V' : State), U'.heap = U.heap → V.vm.Alike V'.vm → V'.heap = V.heap → Got a D fV fC A o len r U V → Got a D fV fC A o len r U' V' :=
  fun r U U' V V' h1 hal h2 ⟨e0, D', X, a1, a2, a3, a4, a5, a6, a7, a8, a9, a10, a11⟩ => ⟨e0, D', X, a1.mv hal h2, a2, by rw [h1]; exact a3, a4, by rw [h1]; exact a5.mv hal h2, a6, by rw [hal.findClass]; exact a7, a8, a9, by rw [h1, h2]; exact a10, by rw [h1, h2]; exact a11⟩
namespace New4
def yN : MethodName := ⟨"java/lang/String", "<init>", "([CIILjava/lang/Void;)V"⟩
abbrev yB : ByteArray := jdk_42_method_149_code
theorem d0 : decode yB 0 = .ok (.aload_n 0, 1) := by decide +kernel
theorem d1 : decode yB 1 = .ok (.invokespecial 1, 3) := by decide +kernel
theorem d4 : decode yB 4 = .ok (.iload_n 3, 1) := by decide +kernel
theorem d5 : decode yB 5 = .ok (.ifCond (.ne) 22, 3) := by decide +kernel
theorem d27 : decode yB 27 = .ok (.getstatic 38, 3) := by decide +kernel
theorem d30 : decode yB 30 = .ok (.ifCond (.eq) 28, 3) := by decide +kernel
theorem d33 : decode yB 33 = .ok (.aload_n 1, 1) := by decide +kernel
theorem d34 : decode yB 34 = .ok (.iload_n 2, 1) := by decide +kernel
theorem d35 : decode yB 35 = .ok (.iload_n 3, 1) := by decide +kernel
theorem d36 : decode yB 36 = .ok (.invokestatic 177, 3) := by decide +kernel
theorem d39 : decode yB 39 = .ok (.astore 5, 2) := by decide +kernel
theorem d41 : decode yB 41 = .ok (.aload_n 0, 1) := by decide +kernel
theorem d42 : decode yB 42 = .ok (.aload 5, 2) := by decide +kernel
theorem d44 : decode yB 44 = .ok (.iload_n 3, 1) := by decide +kernel
theorem d45 : decode yB 45 = .ok (.invokestatic 47, 3) := by decide +kernel
theorem d48 : decode yB 48 = .ok (.putfield 15, 3) := by decide +kernel
theorem d51 : decode yB 51 = .ok (.aload_n 0, 1) := by decide +kernel
theorem d52 : decode yB 52 = .ok (.aload 5, 2) := by decide +kernel
theorem d54 : decode yB 54 = .ok (.putfield 9, 3) := by decide +kernel
theorem d57 : decode yB 57 = .ok (.return_, 1) := by decide +kernel
def site : List Cond := [.fieldLink "java/lang/String" 38 "java/lang/String" "COMPACT_STRINGS" "Z", Cmp3.tab, CodL.tab, .laysFinal "java/lang/String" "java/lang/String" "value" "[B", .fieldLink "java/lang/String" 9 "java/lang/String" "value" "[B", .laysFinal "java/lang/String" "java/lang/String" "coder" "B", .fieldLink "java/lang/String" 15 "java/lang/String" "coder" "B"] ++ objW "java/lang/String" 1 ++ staticW "java/lang/String" 177 Cmp3.yN ++ staticW "java/lang/String" 47 CodL.yN
def tab : Cond := tabOf yN yB 6 none site
def P (a : Addr) (D : Cell) (fV fC : Field) (b : Addr) (A : Cell) (z : Int32) (o len : Nat) (args : Array Value) (s : State) : Prop := args = #[.ref a, .ref b, .int (Int32.ofNat o), .int (Int32.ofNat len), .null] ∧ Blank "java/lang/String" a D s ∧ Found "java/lang/String" "value" "[B" fV s ∧ Found "java/lang/String" "coder" "B" fC s ∧ Ch b A s ∧ StaticIs s "java/lang/String" "COMPACT_STRINGS" "Z" (.int z) ∧ ¬ z = 0 ∧ 0 < len ∧ o + len ≤ A.slots.size ∧ len ≤ 536870912 ∧ ∀ i, i < len → ¬ 255 < cv A (o + i)
def E (a : Addr) (D : Cell) (fV fC : Field) (A : Cell) (o len : Nat) (r : Option Value) (s u : State) : Prop := Got a D fV fC A o len r s u
/-- len > 0, no char of the range above 255: a Latin-1 String of their low bytes -/
theorem law (l : Launch) (a : Addr) (D : Cell) (fV fC : Field) (b : Addr) (A : Cell) (z : Int32) (o len : Nat) : Law l yN 5 4 2 35 yB 6 none site (P a D fV fC b A z o len) (E a D fV fC A o len) [⟨a, fC.slot⟩, ⟨a, fV.slot⟩] 1 len := by
  refine Law.of_walk (plainFor_of_name (by decide +kernel)) (by decide +kernel) (by decide +kernel) (by decide) (fun _ _ h => by rw [h.1]; rfl) (fun _ U U' hal hh h => ⟨h.1, h.2.1.mv hal hh, h.2.2.1.al hal, h.2.2.2.1.al hal, h.2.2.2.2.1.mv hal hh, h.2.2.2.2.2.1.there hal hh, h.2.2.2.2.2.2⟩) (fun r U U' V V' h1 hal h2 h => Got.mv r U U' V V' h1 hal h2 h) ?_
  intro p e s m args below meth c s₁ X0 hexec hbytes hml hret hlk hnm hown hh0 W hP
  obtain ⟨rfl, hB, f1, f2, hA, s1, hz, l0, l1, l2, hp⟩ := hP
  have a31 := hA.1.2.2.2
  have c1 : Steps p.tables e below (s₁.setTop (entryFrame m #[.ref a, .ref b, .int (Int32.ofNat o), .int (Int32.ofNat len), .null] 6)) (s₁.setTop (mkF m 0 #[.val (.ref a), .val (.ref b), .val (.int (Int32.ofNat o)), .val (.int (Int32.ofNat len)), .val .null, .unset] [])) := entry rfl
  have c2 : Steps p.tables e below (s₁.setTop (entryFrame m #[.ref a, .ref b, .int (Int32.ofNat o), .int (Int32.ofNat len), .null] 6)) (s₁.setTop (mkF m 1 #[.val (.ref a), .val (.ref b), .val (.int (Int32.ofNat o)), .val (.int (Int32.ofNat len)), .val .null, .unset] [.ref a])) := c1.trans (by
    refine XS.aloadN X0.here hexec rfl (hb hbytes d0) rfl rfl ?_
    exact Steps.refl _)
  obtain ⟨T3, X3, q3, st3⟩ := X0.oinit hexec hown (wks W (objW "java/lang/String" 1)) (g := (mkF m 1 #[.val (.ref a), .val (.ref b), .val (.int (Int32.ofNat o)), .val (.int (Int32.ofNat len)), .val .null, .unset] [.ref a])) rfl (by rw [hml]; rfl) (rest := []) rfl (hb hbytes d1) (W := 0) (by show 2 * 0 + 0 ≤ _; decide) (Nat.le_of_ble_eq_true rfl) (Nat.le_of_ble_eq_true rfl)
  have hh3 := q3.trans hh0
  have c4 : Steps p.tables e below (s₁.setTop (entryFrame m #[.ref a, .ref b, .int (Int32.ofNat o), .int (Int32.ofNat len), .null] 6)) (T3.setTop (mkF m 27 #[.val (.ref a), .val (.ref b), .val (.int (Int32.ofNat o)), .val (.int (Int32.ofNat len)), .val .null, .unset] [])) := (c2.trans (st3 _ (Steps.refl _))).trans (by
    refine XS.iloadN X3.here hexec rfl (hb hbytes d4) rfl ?_
    refine XS.ifYes X3.here hexec rfl (pc0 := 5) rfl (hb hbytes d5) rfl (i0_ne_t (nz32 (by omega) l0)) (by decide) rfl ?_
    exact Steps.refl _)
  obtain ⟨T5, X5, q5, st5⟩ := X3.sget hexec hown (wk W (.fieldLink "java/lang/String" 38 "java/lang/String" "COMPACT_STRINGS" "Z")) s1 (fun _ _ h => by rw [hh3]; exact h) (g := (mkF m 27 #[.val (.ref a), .val (.ref b), .val (.int (Int32.ofNat o)), .val (.int (Int32.ofNat len)), .val .null, .unset] [])) rfl (hb hbytes d27)
  have hh5 := q5.trans hh3
  have c6 : Steps p.tables e below (s₁.setTop (entryFrame m #[.ref a, .ref b, .int (Int32.ofNat o), .int (Int32.ofNat len), .null] 6)) (T5.setTop (mkF m 30 #[.val (.ref a), .val (.ref b), .val (.int (Int32.ofNat o)), .val (.int (Int32.ofNat len)), .val .null, .unset] [.int z])) := c4.trans (st5 _ (Steps.refl _))
  have c7 : Steps p.tables e below (s₁.setTop (entryFrame m #[.ref a, .ref b, .int (Int32.ofNat o), .int (Int32.ofNat len), .null] 6)) (T5.setTop (mkF m 36 #[.val (.ref a), .val (.ref b), .val (.int (Int32.ofNat o)), .val (.int (Int32.ofNat len)), .val .null, .unset] [.int (Int32.ofNat len), .int (Int32.ofNat o), .ref b])) := c6.trans (by
    refine XS.ifNo X5.here hexec rfl (hb hbytes d30) rfl (i0_eq_f hz) ?_
    refine XS.aloadN X5.here hexec rfl (hb hbytes d33) rfl rfl ?_
    refine XS.iloadN X5.here hexec rfl (hb hbytes d34) rfl ?_
    refine XS.iloadN X5.here hexec rfl (hb hbytes d35) rfl ?_
    exact Steps.refl _)
  obtain ⟨v8, T8, X8, E8, g8⟩ := X5.callS hexec (Cmp3.law l b A o len) hown (wks W (staticW "java/lang/String" 177 Cmp3.yN)) (wk W Cmp3.tab) (W := 0) (Nat.le_of_ble_eq_true rfl) (Nat.le_of_ble_eq_true rfl) (Nat.le_refl _) (by show 0 + len ≤ len; omega) (g := (mkF m 36 #[.val (.ref a), .val (.ref b), .val (.int (Int32.ofNat o)), .val (.int (Int32.ofNat len)), .val .null, .unset] [.int (Int32.ofNat len), .int (Int32.ofNat o), .ref b])) rfl (by rw [hml]; rfl) c7 (argsL := [.ref b, .int (Int32.ofNat o), .int (Int32.ofNat len)]) (rest := []) rfl rfl (by show 2 * 0 + 0 ≤ _; decide) (hb hbytes d36) (⟨rfl, hA.mv X5.warmed.alike hh5, l1, l2, hp⟩)
  obtain ⟨e8, z8⟩ := E8
  obtain ⟨rfl, N, n1, n2, n3, n4, n5, n6⟩ := NewArr.mv _ T5 s _ _ hh5.symm (Vm.Alike.refl _) rfl e8
  rw [hh5] at z8
  have hB1 := hB.keep X8.warmed.alike (n6 _ _ hB.1)
  have hne : s.heap.size ≠ a := (Nat.ne_of_lt (Array.getElem?_eq_some_iff.mp hB.1).1).symm
  have c9 : Steps p.tables e below (s₁.setTop (entryFrame m #[.ref a, .ref b, .int (Int32.ofNat o), .int (Int32.ofNat len), .null] 6)) (T8.setTop (mkF m 39 #[.val (.ref a), .val (.ref b), .val (.int (Int32.ofNat o)), .val (.int (Int32.ofNat len)), .val .null, .unset] [.ref s.heap.size])) := g8
  have c10 : Steps p.tables e below (s₁.setTop (entryFrame m #[.ref a, .ref b, .int (Int32.ofNat o), .int (Int32.ofNat len), .null] 6)) (T8.setTop (mkF m 45 #[.val (.ref a), .val (.ref b), .val (.int (Int32.ofNat o)), .val (.int (Int32.ofNat len)), .val .null, .val (.ref s.heap.size)] [.int (Int32.ofNat N.slots.size), .ref s.heap.size, .ref a])) := by
    have hc : Steps p.tables e below (s₁.setTop (entryFrame m #[.ref a, .ref b, .int (Int32.ofNat o), .int (Int32.ofNat len), .null] 6)) (T8.setTop (mkF m 45 #[.val (.ref a), .val (.ref b), .val (.int (Int32.ofNat o)), .val (.int (Int32.ofNat len)), .val .null, .val (.ref s.heap.size)] [.int (Int32.ofNat len), .ref s.heap.size, .ref a])) := c9.trans (by
      refine XS.astore X8.here hexec rfl (hb hbytes d39) rfl rfl rfl ?_
      refine XS.aloadN X8.here hexec rfl (hb hbytes d41) rfl rfl ?_
      refine XS.aload X8.here hexec rfl (hb hbytes d42) rfl rfl ?_
      refine XS.iloadN X8.here hexec rfl (hb hbytes d44) rfl ?_
      exact Steps.refl _)
    rw [n4]; exact hc
  obtain ⟨v11, T11, X11, E11, g11⟩ := X8.callS hexec (CodL.law l s.heap.size N) hown (wks W (staticW "java/lang/String" 47 CodL.yN)) (wk W CodL.tab) (W := 1) (Nat.le_of_ble_eq_true rfl) (Nat.le_of_ble_eq_true rfl) (Nat.le_refl _) (by show 0 + len + 0 ≤ len; omega) (g := (mkF m 45 #[.val (.ref a), .val (.ref b), .val (.int (Int32.ofNat o)), .val (.int (Int32.ofNat len)), .val .null, .val (.ref s.heap.size)] [.int (Int32.ofNat N.slots.size), .ref s.heap.size, .ref a])) rfl (by rw [hml]; rfl) c10 (argsL := [.ref s.heap.size, .int (Int32.ofNat N.slots.size)]) (rest := [.ref a]) rfl rfl (by show 2 * 0 + (1 + 0) ≤ _; decide) (hb hbytes d45) (⟨rfl, n1⟩)
  obtain ⟨rfl, q11⟩ := E11
  have hB11 := hB1.mv (X8.warmed.alike.symm.trans X11.warmed.alike) q11
  have c12 : Steps p.tables e below (s₁.setTop (entryFrame m #[.ref a, .ref b, .int (Int32.ofNat o), .int (Int32.ofNat len), .null] 6)) (T11.setTop (mkF m 48 #[.val (.ref a), .val (.ref b), .val (.int (Int32.ofNat o)), .val (.int (Int32.ofNat len)), .val .null, .val (.ref s.heap.size)] [.int 0, .ref a])) := g11
  obtain ⟨T13, X13, p13, bl13, sl13, st13⟩ := X11.finit hexec hown (wk W (.fieldLink "java/lang/String" 15 "java/lang/String" "coder" "B")) (Or.inr ⟨_, (wk W (.laysFinal "java/lang/String" "java/lang/String" "coder" "B"))⟩) (Or.inl ⟨rfl, hnm⟩) f2 (Or.inl rfl) hB11 (t := .byte) (by decide +kernel) rfl (g := (mkF m 48 #[.val (.ref a), .val (.ref b), .val (.int (Int32.ofNat o)), .val (.int (Int32.ofNat len)), .val .null, .val (.ref s.heap.size)] [.int 0, .ref a])) rfl (rest := []) rfl (hb hbytes d48)
  have c14 : Steps p.tables e below (s₁.setTop (entryFrame m #[.ref a, .ref b, .int (Int32.ofNat o), .int (Int32.ofNat len), .null] 6)) (T13.setTop (mkF m 54 #[.val (.ref a), .val (.ref b), .val (.int (Int32.ofNat o)), .val (.int (Int32.ofNat len)), .val .null, .val (.ref s.heap.size)] [.ref s.heap.size, .ref a])) := (c12.trans (st13 _ (Steps.refl _))).trans (by
    refine XS.aloadN X13.here hexec rfl (hb hbytes d51) rfl rfl ?_
    refine XS.aload X13.here hexec rfl (hb hbytes d52) rfl rfl ?_
    exact Steps.refl _)
  obtain ⟨T15, X15, p15, bl15, sl15, st15⟩ := X13.finit hexec hown (wk W (.fieldLink "java/lang/String" 9 "java/lang/String" "value" "[B")) (Or.inr ⟨_, (wk W (.laysFinal "java/lang/String" "java/lang/String" "value" "[B"))⟩) (Or.inl ⟨rfl, hnm⟩) f1 (Or.inl rfl) bl13 (t := (.array .byte)) (by decide +kernel) rfl (g := (mkF m 54 #[.val (.ref a), .val (.ref b), .val (.int (Int32.ofNat o)), .val (.int (Int32.ofNat len)), .val .null, .val (.ref s.heap.size)] [.ref s.heap.size, .ref a])) rfl (rest := []) rfl (hb hbytes d54)
  have c16 : Steps p.tables e below (s₁.setTop (entryFrame m #[.ref a, .ref b, .int (Int32.ofNat o), .int (Int32.ofNat len), .null] 6)) (T15.setTop (mkF m 57 #[.val (.ref a), .val (.ref b), .val (.int (Int32.ofNat o)), .val (.int (Int32.ofNat len)), .val .null, .val (.ref s.heap.size)] [])) := c14.trans (st15 _ (Steps.refl _))
  have ap := apart (Or.inr ⟨_, (wk W (.laysFinal "java/lang/String" "java/lang/String" "value" "[B"))⟩) (Or.inr ⟨_, (wk W (.laysFinal "java/lang/String" "java/lang/String" "coder" "B"))⟩) f1 f2 (t₁ := .array .byte) (t₂ := .byte) (by decide +kernel) (by decide +kernel) (by decide)
  have al := X8.warmed.alike.symm.trans X15.warmed.alike
  have n7 : T11.heap[s.heap.size]? = some N := by rw [q11]; exact n1.1
  exact ⟨T15, none, _, _, _, X15, by simp, rfl, by omega, (fun _ => rfl), ⟨rfl, _, N, bl15, ((Same.refl D _).set _ (by simp)).set _ (by simp), sl15, (Cell.slots_setSlot_ne _ ap).trans sl13, n1.keep al (p15.other hne (p13.other hne n7)), n2, by rw [al.findClass]; exact n3, n4, n5, fun y c h1 h2 => p15.other h1 (p13.other h1 (by rw [q11]; exact n6 y c h2)), by rw [p15.2.2, p13.2.2, q11]; exact z8⟩, fun fs hl => c16.trans (X15.returnOut hexec hret (hb hbytes d57) hl)⟩
end New4
namespace New1
def yN : MethodName := ⟨"java/lang/String", "<init>", "([C)V"⟩
abbrev yB : ByteArray := jdk_42_method_3_code
theorem d0 : decode yB 0 = .ok (.aload_n 0, 1) := by decide +kernel
theorem d1 : decode yB 1 = .ok (.aload_n 1, 1) := by decide +kernel
theorem d2 : decode yB 2 = .ok (.iconst 0, 1) := by decide +kernel
theorem d3 : decode yB 3 = .ok (.aload_n 1, 1) := by decide +kernel
theorem d4 : decode yB 4 = .ok (.arraylength, 1) := by decide +kernel
theorem d5 : decode yB 5 = .ok (.aconst_null, 1) := by decide +kernel
theorem d6 : decode yB 6 = .ok (.invokespecial 27, 3) := by decide +kernel
theorem d9 : decode yB 9 = .ok (.return_, 1) := by decide +kernel
def site : List Cond := [New4.tab] ++ initW "java/lang/String" 27 New4.yN
def tab : Cond := tabOf yN yB 2 none site
def P (a : Addr) (D : Cell) (fV fC : Field) (b : Addr) (A : Cell) (z : Int32) (args : Array Value) (s : State) : Prop := args = #[.ref a, .ref b] ∧ Blank "java/lang/String" a D s ∧ Found "java/lang/String" "value" "[B" fV s ∧ Found "java/lang/String" "coder" "B" fC s ∧ Ch b A s ∧ StaticIs s "java/lang/String" "COMPACT_STRINGS" "Z" (.int z) ∧ ¬ z = 0 ∧ 0 < A.slots.size ∧ A.slots.size ≤ 536870912 ∧ ∀ i, i < A.slots.size → ¬ 255 < cv A i
def E (a : Addr) (D : Cell) (fV fC : Field) (A : Cell) (r : Option Value) (s u : State) : Prop := Got a D fV fC A 0 A.slots.size r s u
/-- new String(chars), not empty, no char above 255: a Latin-1 String of their low bytes -/
theorem law (l : Launch) (a : Addr) (D : Cell) (fV fC : Field) (b : Addr) (A : Cell) (z : Int32) : Law l yN 2 1 3 52 yB 2 none site (P a D fV fC b A z) (E a D fV fC A) [⟨a, fC.slot⟩, ⟨a, fV.slot⟩] 1 A.slots.size := by
  refine Law.of_walk (plainFor_of_name (by decide +kernel)) (by decide +kernel) (by decide +kernel) (by decide) (fun _ _ h => by rw [h.1]; rfl) (fun _ U U' hal hh h => ⟨h.1, h.2.1.mv hal hh, h.2.2.1.al hal, h.2.2.2.1.al hal, h.2.2.2.2.1.mv hal hh, h.2.2.2.2.2.1.there hal hh, h.2.2.2.2.2.2⟩) (fun r U U' V V' h1 hal h2 h => Got.mv r U U' V V' h1 hal h2 h) ?_
  intro p e s m args below meth c s₁ X0 hexec hbytes hml hret hlk hnm hown hh0 W hP
  obtain ⟨rfl, hB, f1, f2, hA, s1, hz, l0, l2, hp⟩ := hP
  have c1 : Steps p.tables e below (s₁.setTop (entryFrame m #[.ref a, .ref b] 2)) (s₁.setTop (mkF m 0 #[.val (.ref a), .val (.ref b)] [])) := entry rfl
  have c2 : Steps p.tables e below (s₁.setTop (entryFrame m #[.ref a, .ref b] 2)) (s₁.setTop (mkF m 6 #[.val (.ref a), .val (.ref b)] [.null, .int (Int32.ofNat A.slots.size), .int 0, .ref b, .ref a])) := c1.trans (by
    refine XS.aloadN X0.here hexec rfl (hb hbytes d0) rfl rfl ?_
    refine XS.aloadN X0.here hexec rfl (hb hbytes d1) rfl rfl ?_
    refine iconstV X0.here hexec rfl 0 (hb hbytes d2) (by decide) ?_
    refine XS.aloadN X0.here hexec rfl (hb hbytes d3) rfl rfl ?_
    refine X0.alen hexec (hA.1.mv X0.warmed.alike hh0) rfl rfl (hb hbytes d4) ?_
    refine XS.aconstNull X0.here hexec rfl (hb hbytes d5) ?_
    exact Steps.refl _)
  obtain ⟨v3, T3, X3, E3, g3⟩ := X0.callN hexec (New4.law l a D fV fC b A z 0 A.slots.size) rfl hown (wks W (initW "java/lang/String" 27 New4.yN)) (W New4.tab (by simp only [site, List.mem_cons, List.mem_append, true_or, or_true])) (W := 0) (Nat.le_of_ble_eq_true rfl) (Nat.le_of_ble_eq_true rfl) (Nat.le_refl _) (by show 0 + A.slots.size ≤ A.slots.size; omega) (g := (mkF m 6 #[.val (.ref a), .val (.ref b)] [.null, .int (Int32.ofNat A.slots.size), .int (Int32.ofNat 0), .ref b, .ref a])) rfl (by rw [hml]; rfl) c2 (argsL := [.ref b, .int (Int32.ofNat 0), .int (Int32.ofNat A.slots.size), .null]) (rest := []) rfl rfl (by show 2 * 0 + 0 ≤ _; decide) (hb hbytes d6) (⟨rfl, hB.mv X0.warmed.alike hh0, f1.al X0.warmed.alike, f2.al X0.warmed.alike, hA.mv X0.warmed.alike hh0, s1.there X0.warmed.alike hh0, hz, l0, by omega, l2, fun i hi => by rw [Nat.zero_add]; exact hp i hi⟩)
  have e0 := Got.mv _ s₁ s _ _ hh0.symm (Vm.Alike.refl _) rfl E3
  obtain rfl := e0.1
  have c4 : Steps p.tables e below (s₁.setTop (entryFrame m #[.ref a, .ref b] 2)) (T3.setTop (mkF m 9 #[.val (.ref a), .val (.ref b)] [])) := g3
  exact ⟨T3, none, _, _, _, X3, by simp, rfl, by omega, (fun _ => rfl), e0, fun fs hl => c4.trans (X3.returnOut hexec hret (hb hbytes d9) hl)⟩
theorem pays {l : Launch} {R : Room} {p : Program} {e : Env} {below : List Frame} {s : State} {sargs : Array Value} {len W : Nat} (a : Addr) (D : Cell) (fV fC : Field) (b : Addr) (A : Cell) (z : Int32) (htab : tab.before sargs s = true) (hfr : 4 ≤ R.frames) (hlo : W + 65 ≤ R.locals) :
    Back l R p e below s sargs yN len W (fun A₁ a₁ => A₁.cells + 1 ≤ R.cells ∧ A₁.slots + A.slots.size ≤ R.slots ∧ P a D fV fC b A z a₁ A₁.U) (fun A₁ _ v₁ B₁ => E a D fV fC A v₁ A₁.U B₁.U ∧ B₁.locs = A₁.locs ++ [⟨a, fC.slot⟩, ⟨a, fV.slot⟩] ∧ B₁.cells = A₁.cells + 1 ∧ B₁.slots = A₁.slots + A.slots.size) :=
  (law l a D fV fC b A z).pays htab hfr (by omega)
end New1
end StrChars
namespace StrChars.Road
open Jvm Sem ClassFile Op Lib Jvm.Stand Jvm.Free Jvm.Free.XT
open Jvm.Lib.Cold (StaticIs)
abbrev ST : String := "java/lang/String"
/-- every table word that New1's law asks, flat -/
abbrev words : List Jvm.Cond := [.code New1.yN New1.yB 2 none, .initialized ST, .methodLink ST 27 New4.yN, .instanceMethod New4.yN,
  .code New4.yN New4.yB 6 none, .fieldLink ST 38 ST "COMPACT_STRINGS" "Z", .laysFinal ST ST "value" "[B", .fieldLink ST 9 ST "value" "[B", .laysFinal ST ST "coder" "B", .fieldLink ST 15 ST "coder" "B",
  .methodLink ST 1 Lib.objectInit, .instanceMethod Lib.objectInit, .code Lib.objectInit ⟨#[0xb1]⟩ 1 none, .methodLink ST 177 Cmp3.yN, .static Cmp3.yN, .methodLink ST 47 CodL.yN, .static CodL.yN,
  .code Cmp3.yN Cmp3.yB 6 (some (.array .byte)), .initialized U16, .arrayClass .byte, .methodLink U16 115 Cmp5.yN, .static Cmp5.yN, .code Cmp5.yN Cmp5.yB 7 (some .int), .code CodL.yN CodL.yB 2 (some .byte)]
theorem tab_of {a : Array Value} {s : State} (h : ∀ w ∈ words, w.before a s = true) : New1.tab.before a s = true := by
  have h5 : Cmp5.tab.before a s = true := unparts (wk h (.code Cmp5.yN Cmp5.yB 7 (some .int))) (wks h (.initialized Cmp5.yN.cls :: Cmp5.site))
  have hc : CodL.tab.before a s = true := unparts (wk h (.code CodL.yN CodL.yB 2 (some .byte))) (wks h (.initialized CodL.yN.cls :: CodL.site))
  have q5 : ∀ w ∈ Cmp5.tab :: words, w.before a s = true := fun w hw => (List.mem_cons.mp hw).elim (fun e => e ▸ h5) (h w)
  have h3 : Cmp3.tab.before a s = true := unparts (wk q5 (.code Cmp3.yN Cmp3.yB 6 (some (.array .byte)))) (wks q5 (.initialized Cmp3.yN.cls :: Cmp3.site))
  have q3 : ∀ w ∈ Cmp3.tab :: CodL.tab :: words, w.before a s = true := fun w hw => (List.mem_cons.mp hw).elim (fun e => e ▸ h3) fun hw => (List.mem_cons.mp hw).elim (fun e => e ▸ hc) (h w)
  have h4 : New4.tab.before a s = true := unparts (wk q3 (.code New4.yN New4.yB 6 none)) (wks q3 (.initialized New4.yN.cls :: New4.site))
  have q4 : ∀ w ∈ New4.tab :: words, w.before a s = true := fun w hw => (List.mem_cons.mp hw).elim (fun e => e ▸ h4) (h w)
  exact unparts (wk q4 (.code New1.yN New1.yB 2 none)) (wks q4 (.initialized New1.yN.cls :: New1.site))
/-- the words ride from the start Z to the walk's own state -/
theorem moved {Z s : State} {a0 args : Array Value} (hZ : Z.Warmed39 s.vm) (hw : ∀ d ∈ words, d.before a0 Z = true) : ∀ d ∈ words, d.before args s = true := fun d hd => by
  have q := hw d hd
  have t : ∀ d ∈ words, d = .arrayClass .byte ∨ (d.onTables && d.keepsFace) = true := by decide +kernel
  rcases t d hd with rfl | t
  · exact RoadKit.mvA hZ q
  · exact RoadKit.mv hZ q t
/-- WHAT COMES BACK, over the tables of the start Z: h the heap at the call, h' behind it -/
def Q (Z : State) (x : Addr) (A : Cell) (h : Heap) (v : Option Value) (h' : Heap) (L : List Loc) : Prop := v = none ∧ (∀ y ∈ L, y.base = x) ∧ RoadKit.Keep h h' [x] ∧ h'.size = h.size + 1 ∧ RoadKit.Exa Z h' x ST ∧ RoadKit.Fld Z h' x ST "value" "[B" (.ref h.size) ∧ RoadKit.Fld Z h' x ST "coder" "B" (.int 0) ∧
  (∃ V : Cell, RoadKit.Arr Z h' h.size V .byte ∧ V.vm = .none ∧ Z.vm.findClass "[B" = some V.cls ∧ V.slots.size = A.slots.size ∧ ∀ j, j < A.slots.size → V.slots[j]? = some (.int (lo8 (cv A j)))) ∧
  ∀ (O n d : String) (w : Value), RoadKit.Fld Z h x O n d w → RoadKit.slotOf Z O n d ≠ RoadKit.slotOf Z ST "value" "[B" → RoadKit.slotOf Z O n d ≠ RoadKit.slotOf Z ST "coder" "B" → RoadKit.Fld Z h' x O n d w
/-- **new String(chars) AT A CALL, IN THE ROAD'S FORM**: for specialBack behind newO: x the fresh String, b the char[] with the cell A -/
theorem back {p : Program} {l : Launch} {e : Env} {R : Room} {s : State} {args : Array Value} {below : List Frame} {len W : Nat} {Z : State} {a0 : Array Value} {h : Heap} (hZ : Z.Warmed39 s.vm) (hw : ∀ d ∈ words, d.before a0 Z = true) {kI : Nat} (wi : (Jvm.Cond.instantiable ST kI).before a0 Z = true)
    {x b : Addr} {A : Cell} {z : Int32} {v0 c0 : Value} (E : RoadKit.Exa Z h x ST) (V : RoadKit.Fld Z h x ST "value" "[B" v0) (C : RoadKit.Fld Z h x ST "coder" "B" c0) (K : RoadKit.Arr Z h b A .char) (hty : Typed .char A) (S : RoadKit.Sta Z h ST "COMPACT_STRINGS" "Z" (.int z)) (hz : ¬ z = 0)
    (l0 : 0 < A.slots.size) (l2 : A.slots.size ≤ 536870912) (hp : ∀ i, i < A.slots.size → ¬ 255 < cv A i) (hfr : 4 ≤ R.frames) (hlo : W + 65 ≤ R.locals) :
    Back l R p e below s args New1.yN len W (fun P a => a = #[.ref x, .ref b] ∧ P.U.heap = h ∧ P.cells + 1 ≤ R.cells ∧ P.slots + A.slots.size ≤ R.slots)
      (fun P _ v B => ∃ L, Q Z x A h v B.U.heap L ∧ B.locs = P.locs ++ L ∧ B.cells = P.cells + 1 ∧ B.slots = P.slots + A.slots.size) := by
  intro m meth c P g ig mk a X hg hsize hdg hW hn hp'
  obtain ⟨rfl, rfl, r1, r2⟩ := hp'
  have al : Z.vm.Alike P.U.vm := hZ.alike.trans X.warmed.alike
  obtain ⟨D, cfV, kV, iV, fV, hD, gV, stV, knV, obV, asV, slV⟩ := id V
  obtain ⟨D', cfC, kC, iC, fC, hD', gC, stC, -, -, asC, slC⟩ := id C
  cases hD.symm.trans hD'
  obtain ⟨D2, kD, e1, e2, e3, e4, e5⟩ := id E
  cases hD.symm.trans e1
  obtain ⟨c2, k2, i1, i2, i3, -⟩ := Cond.instantiable_spec wi
  cases e2.symm.trans i1
  cases e3.symm.trans i2
  obtain ⟨kU, u1, u2⟩ := al.2.2 _ _ e3
  have hB : Blank ST x D P.U := ⟨hD, ⟨knV, fun q hq => by rw [hq] at obV; cases obV⟩, by rw [al.findClass]; exact e2, kU, u1, by rw [u2]; exact i3, by rw [u2]; exact e5 i3⟩
  have F1 : Found ST "value" "[B" fV P.U := ⟨SBG.found_only al ⟨cfV, kV, iV, gV⟩, stV⟩
  have F2 : Found ST "coder" "B" fC P.U := ⟨SBG.found_only al ⟨cfC, kC, iC, gC⟩, stC⟩
  have hA : Ch b A P.U := ⟨⟨K.1, State.isArrayOf_alike al K.2.1, K.2.2, by omega⟩, hty⟩
  have hS : StaticIs P.U ST "COMPACT_STRINGS" "Z" (.int z) := by
    obtain ⟨cfS, iS, kS, fS, st, cS, t1, t2, t3, t4, t5, t6, t7⟩ := S
    exact StaticIs.there (s := { Z with heap := P.U.heap }) ⟨cfS, iS, kS, fS, st, cS, t1, t2, t3, t4, t5, (fun q => by rw [q] at t6; cases t6), t7⟩ al rfl
  obtain ⟨v, B, X', ⟨⟨hv, E', V', q1, q2, q3, q4, q5, q6, q7, q8, q9, q10, q11⟩, hl, hc, hs⟩, st⟩ := New1.pays x D fV fC b A z (tab_of (moved hZ hw)) hfr hlo m meth c P g ig mk _ X hg hsize hdg hW hn ⟨r1, r2, rfl, hB, F1, F2, hA, hS, hz, l0, l2, hp⟩
  have al' : Z.vm.Alike B.U.vm := hZ.alike.trans X'.warmed.alike
  have hsz : E'.slots.size = D.slots.size := by
    obtain ⟨-, -, -, kB, w1, w2, w3⟩ := q1
    obtain ⟨kB', y1, y2⟩ := al'.2.2 _ _ e3
    rw [q2.2.1] at w1
    cases w1.symm.trans y1
    rw [w3, e5 i3, y2]
  refine ⟨v, B, X', ⟨_, ⟨hv, ?_, ⟨by omega, fun y cy hy hn' => q10 y cy (by simpa using hn') hy, fun y cy hy => ?_⟩, q11, ⟨E', _, q1.1, by rw [q2.2.1]; exact e2, by rw [q2.2.1]; exact e3, by rw [q2.1]; exact obV, fun _ => by rw [hsz]; exact e5 i3⟩,
    ⟨E', cfV, kV, iV, fV, q1.1, gV, stV, by rw [q2.1]; exact knV, by rw [q2.1]; exact obV, by rw [q2.2.1]; exact asV, q3⟩, ⟨E', cfC, kC, iC, fC, q1.1, gC, stC, by rw [q2.1]; exact knV, by rw [q2.1]; exact obV, by rw [q2.2.1]; exact asC, q4⟩,
    ⟨V', ⟨q5.1, State.isArrayOf_alike al'.symm q5.2.1, q5.2.2.1⟩, q6, by rw [← al'.findClass]; exact q7, q8, fun j hj => by have := q9 j hj; rwa [Nat.zero_add] at this⟩, fun O n d w F n1 n2 => ?_⟩, hl, hc, hs⟩, st⟩
  · intro y hy
    simp only [List.mem_cons, List.not_mem_nil, or_false] at hy
    rcases hy with rfl | rfl <;> rfl
  · by_cases q : y = x
    · subst q
      cases hD.symm.trans hy
      exact ⟨E', q1.1, q2.2.1, q2.1, hsz⟩
    · exact ⟨cy, q10 y cy q hy, rfl, rfl, rfl⟩
  · obtain ⟨D3, cf, k, i, f, g1, g2, g3, g4, g5, g6, g7⟩ := F
    cases hD.symm.trans g1
    simp only [RoadKit.slotOf, g2, gV, gC, Option.map_some, Option.getD_some] at n1 n2
    exact ⟨E', cf, k, i, f, q1.1, g2, g3, by rw [q2.1]; exact g4, by rw [q2.1]; exact g5, by rw [q2.2.1]; exact g6, by rw [q2.2.2 f.slot (by simp [n1, n2])]; exact g7⟩
end StrChars.Road
namespace StrChars.Road
open Jvm Sem ClassFile Op Lib Jvm.Stand Jvm.Free Jvm.Free.XT
/-- WHAT COMES BACK, the byte[] as a list of values -/
def QA (Z : State) (x : Addr) (zn : Int32) (cs : List Int32) (h : Heap) (v : Option Value) (h' : Heap) (L : List Loc) : Prop := v = none ∧ (∀ y ∈ L, y.base = x) ∧ RoadKit.Keep h h' [x] ∧ h'.size = h.size + 1 ∧ RoadKit.Exa Z h' x ST ∧ RoadKit.Fld Z h' x ST "value" "[B" (.ref h.size) ∧ RoadKit.Fld Z h' x ST "coder" "B" (.int 0) ∧
  (∃ kb, Z.vm.findClass "[B" = some kb ∧ RoadKit.Arv Z h' h.size kb .byte zn (cs.map fun c => .int (lo8 c)) (.int 0)) ∧
  ∀ (O n d : String) (w : Value), RoadKit.Fld Z h x O n d w → RoadKit.slotOf Z O n d ≠ RoadKit.slotOf Z ST "value" "[B" → RoadKit.slotOf Z O n d ≠ RoadKit.slotOf Z ST "coder" "B" → RoadKit.Fld Z h' x O n d w
/-- **new String(chars) AT A CALL, THE ARRAYS AS LISTS**: the char[] at b holds cs, not empty, no char above 255 -/
theorem backArv {p : Program} {l : Launch} {e : Env} {R : Room} {s : State} {args : Array Value} {below : List Frame} {len W : Nat} {Z : State} {a0 : Array Value} {h : Heap} (hZ : Z.Warmed39 s.vm) (hw : ∀ d ∈ words, d.before a0 Z = true) {kI : Nat} (wi : (Jvm.Cond.instantiable ST kI).before a0 Z = true)
    {x b : Addr} {k : ClassId} {zn z : Int32} {cs : List Int32} {dv v0 c0 : Value} (E : RoadKit.Exa Z h x ST) (V : RoadKit.Fld Z h x ST "value" "[B" v0) (C : RoadKit.Fld Z h x ST "coder" "B" c0) (K : RoadKit.Arv Z h b k .char zn (cs.map Value.int) dv) (S : RoadKit.Sta Z h ST "COMPACT_STRINGS" "Z" (.int z)) (hz : ¬ z = 0)
    (hlen : zn.toNatClampNeg = cs.length) (h0 : 0 < cs.length) (hbig : cs.length ≤ 536870912) (hall : ∀ c ∈ cs, ¬ 255 < c) (hfr : 4 ≤ R.frames) (hlo : W + 65 ≤ R.locals) :
    Back l R p e below s args New1.yN len W (fun P a => a = #[.ref x, .ref b] ∧ P.U.heap = h ∧ P.cells + 1 ≤ R.cells ∧ P.slots + cs.length ≤ R.slots)
      (fun P _ v B => ∃ L, QA Z x zn cs h v B.U.heap L ∧ B.locs = P.locs ++ L ∧ B.cells = P.cells + 1 ∧ B.slots = P.slots + cs.length) := by
  obtain ⟨A, K1, K2, K3, K4, K5, K6⟩ := K
  have e : A.slots.size = cs.length := K3.trans hlen
  have hat : ∀ (i : Nat) (hi : i < cs.length), A.slots[i]? = some (.int cs[i]) := fun i hi => by rw [K5 i (by omega)]; simp [List.getD_eq_getElem?_getD, hi]
  have hcv : ∀ (i : Nat) (hi : i < cs.length), cv A i = cs[i] := fun i hi => by unfold cv; rw [hat i hi]
  have hty : Typed .char A := fun i v hv => by
    have hi : i < A.slots.size := (Array.getElem?_eq_some_iff.mp hv).1
    have q := K5 i hi
    rw [hv] at q
    rw [Option.some.inj q]
    exact K6 i hi
  refine Back.mono (back hZ hw wi E V C K1 hty S hz (by omega) (by omega) (fun i hi => by rw [hcv i (by omega)]; exact hall _ (List.getElem_mem _)) hfr hlo) (fun P a hp => ⟨hp.1, hp.2.1, hp.2.2.1, by rw [e]; exact hp.2.2.2⟩) (fun P a v B hp hq => ?_)
  obtain ⟨L, ⟨q1, q2, q3, q4, q5, q6, q7, ⟨V', v1, v2, v3, v4, v5⟩, q9⟩, hl, hc, hs⟩ := hq
  refine ⟨L, ⟨q1, q2, q3, q4, q5, q6, q7, ⟨V'.cls, v3, V', v1, rfl, by rw [v4, e, hlen], K4, fun i hi => ?_, fun i hi => ?_⟩, q9⟩, hl, hc, by rw [hs, e]⟩
  · have hi' : i < cs.length := by omega
    rw [v5 i (by omega), hcv i hi']; simp [List.getD_eq_getElem?_getD, hi']
  · have hi' : i < cs.length := by omega
    simp only [List.getD_eq_getElem?_getD, List.getElem?_map, List.getElem?_eq_getElem hi', Option.map_some, Option.getD_some]
    exact fits_lo8 _
end StrChars.Road
namespace StrChars.Road
open Jvm Sem ClassFile Op Lib Jvm.Stand Jvm.Free Jvm.Free.XT
/-- WHAT COMES BACK, in the writer's own shape -/
def QV (Z : State) (x : Addr) (N : Int32) (bs : List Int32) (h : Heap) (n0 : Nat) (v : Option Value) (h' : Heap) (L : List Loc) : Prop := v = none ∧ RoadKit.Fr n0 L ∧ RoadKit.Keep h h' [x] ∧ RoadKit.Exa Z h' x ST ∧ RoadKit.Fld Z h' x ST "coder" "B" (.int 0) ∧
  ∃ (t : Addr) (kb : ClassId), n0 ≤ t ∧ h.size ≤ t ∧ ¬ t = x ∧ RoadKit.Fld Z h' x ST "value" "[B" (.ref t) ∧ RoadKit.Arv Z h' t kb .byte N (bs.map Value.int) (.int 0)
/-- **new String(chars) AT A CALL, FOR THE WRITER**: a char[] of n known ints, each 0 to 255 -/
theorem backV {p : Program} {l : Launch} {e : Env} {R : Room} {s : State} {args : Array Value} {below : List Frame} {len W : Nat} {Z : State} {a0 : Array Value} {h : Heap} (hZ : Z.Warmed39 s.vm) (hw : ∀ d ∈ words, d.before a0 Z = true) {kI : Nat} (wi : (Jvm.Cond.instantiable ST kI).before a0 Z = true)
    {x b : Addr} {kC : ClassId} {cs bs : List Int32} {d v0 c0 : Value} {z N : Int32} {n n0 : Nat} (hx0 : n0 ≤ x) (hh0 : n0 ≤ h.size) (E : RoadKit.Exa Z h x ST) (V : RoadKit.Fld Z h x ST "value" "[B" v0) (C : RoadKit.Fld Z h x ST "coder" "B" c0) (K : RoadKit.Arv Z h b kC .char N (cs.map Value.int) d) (S : RoadKit.Sta Z h ST "COMPACT_STRINGS" "Z" (.int z)) (hz : ¬ z = 0)
    (hn : cs.length = n) (hN : N = Int32.ofNat n) (l0 : 0 < n) (l2 : n ≤ 4000) (hp : ∀ c ∈ cs, ¬ c < 0 ∧ ¬ (255 : Int32) < c) (hb : bs = cs.map (fun c => c.toInt8.toInt32)) (hfr : 4 ≤ R.frames) (hlo : W + 65 ≤ R.locals) :
    Back l R p e below s args (⟨"java/lang/String", "<init>", "([C)V"⟩ : MethodName) len W (fun P a => a = #[.ref x, .ref b] ∧ P.U.heap = h ∧ P.cells + 1 ≤ R.cells ∧ P.slots + n ≤ R.slots)
      (fun P _ v B => ∃ L, QV Z x N bs h n0 v B.U.heap L ∧ B.locs = P.locs ++ L ∧ B.cells = P.cells + 1 ∧ B.slots = P.slots + n) := by
  subst hn hN hb
  refine Back.mono (backArv hZ hw wi E V C K S hz (n32 (by omega)) l0 (by omega) (fun c hc => (hp c hc).2) hfr hlo) (fun P a hp => hp) (fun P a v B hp hq => ?_)
  obtain ⟨L, ⟨q1, q2, q3, q4, q5, q6, q7, ⟨kb, v1, v2⟩, q9⟩, hl, hc, hs⟩ := hq
  exact ⟨L, ⟨q1, fun y hy => by rw [q2 y hy]; exact hx0, q3, q5, q7, h.size, kb, hh0, Nat.le_refl _, Nat.ne_of_gt E.lt, q6, by rw [List.map_map]; exact v2⟩, hl, hc, hs⟩
end StrChars.Road
namespace StrChars
open Jvm Sem ClassFile Op Lib Jvm.Stand Jvm.Free.XT Jvm.Free.ALB Jvm.Free.JM Jvm.Free
open Jvm.Lib.Cold (StaticIs)
def hi8 (x : Int32) : Int32 := lo8 (x >>> ((8 : Int32) &&& 31))
end StrChars
namespace StrChars.Road
open Jvm Sem ClassFile Op Lib Jvm.Stand Jvm.Free Jvm.Free.XT
open Jvm.Lib.Cold (StaticIs)
/-- the bytes of the chars cs, low before high -/
def wideBytes : List Int32 → List Value
  | [] => []
  | c :: cs => .int (lo8 c) :: .int (hi8 c) :: wideBytes cs
/-- an array of N2 bytes vs codes the chars cs by the coder cd -/
def CodA (cs : List Int32) (cd N2 : Int32) (vs : List Value) : Prop := (cd = 0 ∧ N2 = Int32.ofNat cs.length ∧ vs = (cs.map fun c => Value.int (lo8 c)) ∧ ∀ c ∈ cs, ¬ 255 < c) ∨ (cd = 1 ∧ N2 = Int32.ofNat (2 * cs.length) ∧ vs = wideBytes cs ∧ ∃ c ∈ cs, 255 < c)
end StrChars.Road
namespace StrChars.Road
open Jvm Sem ClassFile Op Lib Jvm.Stand Jvm.Free Jvm.Free.XT
open Jvm.Lib.Cold (StaticIs)
/-- what backV says of its String, as the contracts of this text ask it: cs's low bytes, coder 0 -/
theorem codOf {cs : List Int32} {n : Nat} (hn : cs.length = n) (hb : ∀ c ∈ cs, ¬ 255 < c) : CodA cs 0 (Int32.ofNat n) ((cs.map lo8).map Value.int) := Or.inl ⟨rfl, by rw [hn], by simp [List.map_map, Function.comp_def], hb⟩
end StrChars.Road
end Jvm.Pilot.@@N@@
namespace Jvm.Pilot.@@N@@
open Jvm Jvm.ClassFile Sem Op Lib Jvm.Free Jvm.Stand Jvm.LawKit Jvm.RoadKit Bundle Jvm.Pilot.@@N@@.Jvm.D
section Kit
variable {p : Program} {l : Launch} {e : Env} {R : Room} {s : State} {m : MethodId} {args : Array Value} {below : List Frame} {meth : Method} {c : Code} {Z : State} {a0 : Array Value} {EL : List (String × Nat)} {own : String} {sf : List Addr} {T : State} {h h' h0 : Heap} {k n k' n' rc rs pc : Nat} {Ls : Array Slot} {stk rest : List Value} {Q : Option Value → Heap → Prop}
/-- where a walk stands: the library's Stand over the start with the tables at hand, and what rides along -/
def Wk (p : Program) (l : Launch) (e : Env) (R : Room) (s : State) (m : MethodId) (args : Array Value) (below : List Frame) (meth : Method) (c : Code) (Z : State) (a0 : Array Value) (EL : List (String × Nat)) (own : String) (sf : List Addr) (T : State) (h : Heap) (k n : Nat) : Prop :=
  p.tables.exec = Jvm.exec ∧ meth.locks = false ∧ EW Z a0 EL ∧ Ext Z.heap s.heap ∧ ∃ (vm0 : Vm) (k0 : Nat) (L : List Loc), Stand p l e R (s.setVm vm0) m args below meth c T L k n ∧ T.heap = h ∧ s.Since vm0 k0 ∧ k0 ≤ h.size ∧ Z.Warmed39 vm0 ∧ vm0.findClass own = some m.cls ∧ CHr Z EL s.vm s.heap vm0 h ∧ (∀ x ∈ sf, x < h.size ∧ Safe Z EL vm0 h x) ∧ Fr Z.heap.size L
/-- from the state st the invocation ends, with Q of its value and heap -/
def Go (p : Program) (e : Env) (below : List Frame) (s : State) (Z : State) (EL : List (String × Nat)) (rc rs : Nat) (Q : Option Value → Heap → Prop) (st : State) : Prop :=
  ∃ t o, Steps p.tables e below st t ∧ t.status = .running ∧ Ended t below o ∧ ∃ v L, o = .returned v ∧ (Q v t.heap ∧ Fr Z.heap.size L) ∧ CHr Z EL s.vm s.heap t.vm t.heap ∧ ReturnedEndW s o t L rc rs
/-- a method's contract: at these arguments and this heap it ends, with Q of its value and heap -/
def Con (l : Launch) (Z : State) (EL : List (String × Nat)) (sf : List Addr) (y : MethodName) (bytes : ByteArray) (maxL : Nat) (ret : Option FieldType) (ws : List Cond) (rm : Room) (as' : Array Value) (h : Heap) (Q : Option Value → Heap → Prop) : Prop :=
  MetFree l y (head1 (Cond.code y bytes maxL ret :: ws) rm) (fun a U => a = as' ∧ Z.Warmed39 U.vm ∧ U.heap = h ∧ CHv Z EL U.vm h ∧ ∀ x ∈ sf, Safe Z EL U.vm h x) (fun _ _ _ _ _ => True) (fun _ U o U' => ∃ v L, o = .returned v ∧ (Q v U'.heap ∧ Fr Z.heap.size L) ∧ CHr Z EL U.vm U.heap U'.vm U'.heap ∧ ReturnedEndW U o U' L rm.cells rm.slots)
theorem Go.by {st st' : State} (q : ∀ t, Steps p.tables e below st' t → Steps p.tables e below st t) (f : Go p e below s Z EL rc rs Q st') : Go p e below s Z EL rc rs Q st := by
  obtain ⟨t, o, h1, r⟩ := f; exact ⟨t, o, q t h1, r⟩
theorem Go.of {st st' : State} (q : Steps p.tables e below st st') (f : Go p e below s Z EL rc rs Q st') : Go p e below s Z EL rc rs Q st := f.by fun t r => q.trans r
theorem Wk.hx (W : Wk p l e R s m args below meth c Z a0 EL own sf T h k n) : p.tables.exec = Jvm.exec := W.1
theorem Wk.here (W : Wk p l e R s m args below meth c Z a0 EL own sf T h k n) : At T m c below := by obtain ⟨-, -, -, -, vm0, k0, L, X, -⟩ := W; exact X.here
theorem Wk.old (W : Wk p l e R s m args below meth c Z a0 EL own sf T h k n) : Ext Z.heap h := by
  obtain ⟨-, -, -, hE, vm0, k0, L, X, rfl, -, -, -, -, -, -, N⟩ := W
  refine ⟨Nat.le_trans hE.1 X.same.2.1, fun b cl hb => ?_⟩
  obtain ⟨c', h1, h2, -, h4⟩ := X.same.2.2.2.2.2 b cl (hE.2 b cl hb)
  have hlt := (Array.getElem?_eq_some_iff.mp hb).1
  have hsl : c'.slots = cl.slots := Array.ext_getElem? fun i => h4 i fun hm => absurd (N _ hm) (Nat.not_le.mpr hlt)
  have hcc : c' = cl := by rw [h2, hsl]
  rw [← hcc]; exact h1
theorem Wk.mono (W : Wk p l e R s m args below meth c Z a0 EL own sf T h k n) (hk : k ≤ k') (hn : n ≤ n') : Wk p l e R s m args below meth c Z a0 EL own sf T h k' n' := by
  obtain ⟨w1, w2, w3, w4, vm0, k0, L, X, r⟩ := W; exact ⟨w1, w2, w3, w4, vm0, k0, L, X.mono hk hn, r⟩
theorem Wk.less {sf' : List Addr} (W : Wk p l e R s m args below meth c Z a0 EL own sf T h k n) (q : ∀ x ∈ sf', x ∈ sf) : Wk p l e R s m args below meth c Z a0 EL own sf' T h k n := by
  obtain ⟨w1, w2, w3, w4, vm0, k0, L, X, r1, r2, r3, r4, r5, r6, r7, r8⟩ := W; exact ⟨w1, w2, w3, w4, vm0, k0, L, X, r1, r2, r3, r4, r5, r6, fun x hx => r7 x (q x hx), r8⟩
/-- what is safe by its class -/
theorem Wk.safeE {C : String} {x : Addr} (W : Wk p l e R s m args below meth c Z a0 EL own sf T h k n) (E : Exa Z h x C) (h1 : C ≠ "java/lang/String") (h2 : C ≠ "[B") : Wk p l e R s m args below meth c Z a0 EL own (x :: sf) T h k n := by
  obtain ⟨w1, w2, w3, w4, vm0, k0, L, X, r1, r2, r3, r4, r5, r6, r7, r8⟩ := W
  exact ⟨w1, w2, w3, w4, vm0, k0, L, X, r1, r2, r3, r4, r5, r6, fun y hy => by
    rcases List.mem_cons.mp hy with rfl | hy
    · exact ⟨E.lt, Safe.exa r4.alike E h1 h2⟩
    · exact r7 y hy, r8⟩
/-- a contract by its body's walk -/
theorem Con.mk {y : MethodName} {bytes : ByteArray} {maxL : Nat} {ret : Option FieldType} {ws : List Cond} {rm : Room} {as' : Array Value} (hp : plainFor y = true) (hEL : EW Z a0 EL) (hE : Ext Z.heap h) (hsf : ∀ x ∈ sf, x < h.size)
    (body : ∀ (p : Program) (e : Env) (s : State) (m : MethodId) (below : List Frame) (meth : Method) (c : Code) (T : State), c.code = bytes → c.maxLocals = maxL → meth.sig.returnType = ret → meth.name = y.name → Wk p l e rm s m as' below meth c Z a0 EL y.cls sf T h 0 0 → Go p e below s Z EL rm.cells rm.slots Q (T.setTop (entryFrame m as' maxL))) :
    Con l Z EL sf y bytes maxL ret ws rm as' h Q := by
  refine MetFree.of_bodySF hp hisR ?_
  intro p e s m args below meth c s₁ Bd hml0 hP hK
  obtain ⟨rfl, hZ, hh, hC, hS⟩ := hP
  have X0 : Stand p l e rm s m args below meth c s₁ [] 0 0 := Stand.of_body Bd
  have e0 : s₁.heap = h := by rw [← hh, Bd.state]; rfl
  subst hh
  obtain ⟨t, o, h1, h2, h3, h4⟩ := body p e s m below meth c s₁ Bd.bytes hml0 Bd.returns (name_of_methodNamed Bd.named Bd.method).1
    ⟨Bd.exec, Bd.notSynchronized, hEL, hE, s.vm, 0, [], X0, e0, (State.WarmedH.refl s).since 0, Nat.zero_le _, hZ, findClass_of_methodNamed Bd.named, CHr.refl hC, fun x hx => ⟨hsf x hx, hS x hx⟩, Fr.nil _⟩
  exact ⟨t, o, h1, h2, h3, h4⟩
/-! returns -/
theorem Wk.ret {st : State} {v : Option Value} (W : Wk p l e R s m args below meth c Z a0 EL own sf T h k n) (hk : k ≤ rc) (hn : n ≤ rs) (hv : meth.sig.returnType = none → v = none) (q : Q v h)
    (go : ∀ {L : List Loc} {vm0 : Vm}, Stand p l e R (s.setVm vm0) m args below meth c T L k n → ∀ fs : List Frame, (∀ (f : JFrame) (acts : List Action), f.method = m → f.locked = none → f.entered = [] → (doReturn e (T.setTop f) acts v).1 = T.setFrames fs) → Steps p.tables e below st (T.setFrames fs)) : Go p e below s Z EL rc rs Q st := by
  obtain ⟨w1, w2, w3, w4, vm0, k0, L, X, rfl, r2, r3, r4, r5, r6, r7, r8⟩ := W
  obtain ⟨fs, hr, hrun, hended, hW⟩ := (X.mono hk hn).leaveW r2 r3 hv w2
  have hc : CHr Z EL s.vm s.heap T.vm T.heap := r6.trans (CHv.at X r4 w3 r6.1)
  exact ⟨_, _, go X fs hr, hrun, hended, v, L, rfl, ⟨q, r8⟩, hc, hW⟩
theorem Wk.retV (W : Wk p l e R s m args below meth c Z a0 EL own sf T h k n) (hk : k ≤ rc) (hn : n ≤ rs) (hret : meth.sig.returnType = none) (hd : decode c.code pc = .ok (.return_, 1)) (q : Q none h) : Go p e below s Z EL rc rs Q (T.setTop (mkF m pc Ls [])) :=
  W.ret hk hn (fun _ => rfl) q fun X fs hr => X.returnOut W.hx hret hd hr
theorem Wk.retN {t : FieldType} {z z' : Int32} (W : Wk p l e R s m args below meth c Z a0 EL own sf T h k n) (hk : k ≤ rc) (hn : n ≤ rs) (hret : meth.sig.returnType = some t) (ht : t = .boolean ∨ t = .byte ∨ t = .char ∨ t = .short) (hd : decode c.code pc = .ok (.ireturn, 1)) (hz : nar t z = z') (q : Q (some (.int z')) h) : Go p e below s Z EL rc rs Q (T.setTop (mkF m pc Ls (.int z :: rest))) := by
  subst hz
  exact W.ret hk hn (fun h => by rw [hret] at h; cases h) q fun X fs hr => Jvm.RoadKit.retN X W.hx hret ht hd hr
theorem Wk.retI {z : Int32} (W : Wk p l e R s m args below meth c Z a0 EL own sf T h k n) (hk : k ≤ rc) (hn : n ≤ rs) (hret : meth.sig.returnType = some .int) (hd : decode c.code pc = .ok (.ireturn, 1)) (q : Q (some (.int z)) h) : Go p e below s Z EL rc rs Q (T.setTop (mkF m pc Ls (.int z :: rest))) :=
  W.ret hk hn (fun h => by rw [hret] at h; cases h) q fun X fs hr => retOut X W.hx hret rfl (Or.inl ⟨rfl, by simp, z, rfl⟩) hd hr
theorem Wk.retA {t : FieldType} {w : Value} (W : Wk p l e R s m args below meth c Z a0 EL own sf T h k n) (hk : k ≤ rc) (hn : n ≤ rs) (hret : meth.sig.returnType = some t) (ht : t.isReference = true) (hw : w.isRef = true) (hd : decode c.code pc = .ok (.areturn, 1)) (q : Q (some w) h) : Go p e below s Z EL rc rs Q (T.setTop (mkF m pc Ls (w :: rest))) :=
  W.ret hk hn (fun h => by rw [hret] at h; cases h) q fun X fs hr => retOut X W.hx hret (by rcases ref_cases hw with rfl | ⟨z, rfl⟩ <;> cases t <;> first | rfl | cases ht) (Or.inr (Or.inr (Or.inr (Or.inr ⟨rfl, ht, hw⟩)))) hd hr
/-! fields -/
theorem Wk.getf {R0 O nm d host : String} {index : Nat} {a : Addr} {v : Value} (W : Wk p l e R s m args below meth c Z a0 EL own sf T h k n) (w : (Cond.fieldLink own index R0 nm d).before a0 Z = true ∨ (Cond.fieldLinkNest own index R0 nm d host).before a0 Z = true) (via : Via Z R0 O nm d) (F : Fld Z h a O nm d v) (hd : decode c.code pc = .ok (.getfield index, 3))
    (go : ∀ T', Wk p l e R s m args below meth c Z a0 EL own sf T' h k n → Go p e below s Z EL rc rs Q (T'.setTop (mkF m (pc + 3) Ls (v :: rest)))) : Go p e below s Z EL rc rs Q (T.setTop (mkF m pc Ls (.ref a :: rest))) := by
  obtain ⟨w1, w2, w3, w4, vm0, k0, L, X, r1, r2, r3, r4, r5, r⟩ := W
  obtain ⟨T', X', e', st⟩ := getF X w1 r4 r5 w via r1 F (g := mkF m pc Ls (.ref a :: rest)) rfl rfl hd
  exact Go.by st (go T' ⟨w1, w2, w3, w4, vm0, k0, L, X', e', r2, r3, r4, r5, r⟩)
theorem Wk.gets {R0 O nm d host : String} {index : Nat} {v : Value} (W : Wk p l e R s m args below meth c Z a0 EL own sf T h k n) (w : (Cond.fieldLink own index R0 nm d).before a0 Z = true ∨ (Cond.fieldLinkNest own index R0 nm d host).before a0 Z = true) (via : Via Z R0 O nm d) (F : Sta Z h O nm d v) (hd : decode c.code pc = .ok (.getstatic index, 3))
    (go : ∀ T', Wk p l e R s m args below meth c Z a0 EL own sf T' h k n → Go p e below s Z EL rc rs Q (T'.setTop (mkF m (pc + 3) Ls (v :: stk)))) : Go p e below s Z EL rc rs Q (T.setTop (mkF m pc Ls stk)) := by
  obtain ⟨w1, w2, w3, w4, vm0, k0, L, X, r1, r2, r3, r4, r5, r⟩ := W
  obtain ⟨T', X', e', st⟩ := getS2 X w1 r4 r5 w via r1 F (g := mkF m pc Ls stk) rfl hd
  exact Go.by st (go T' ⟨w1, w2, w3, w4, vm0, k0, L, X', e', r2, r3, r4, r5, r⟩)
theorem Wk.wrote {a : Addr} {sl : Nat} {v : Value} {T' : State} {L : List Loc} {vm0 : Vm} (hxm : p.tables.exec = Jvm.exec) (hl : meth.locks = false) (hEW : EW Z a0 EL) (hE : Ext Z.heap s.heap) {k0 : Nat} (X' : Stand p l e R (s.setVm vm0) m args below meth c T' (L ++ [⟨a, sl⟩]) k n) (e' : T'.heap = h') (W' : Wr h h' a sl v) (r2 : s.Since vm0 k0) (r3 : k0 ≤ h.size) (r4 : Z.Warmed39 vm0) (r5 : vm0.findClass own = some m.cls) (r6 : CHr Z EL s.vm s.heap vm0 h) (r7 : ∀ x ∈ sf, x < h.size ∧ Safe Z EL vm0 h x) (r8 : Fr Z.heap.size L) (ha : Z.heap.size ≤ a) (hs : a ∈ sf) :
    Wk p l e R s m args below meth c Z a0 EL own sf T' h' k n := by
  have hsz : h'.size = h.size := W'.size
  exact ⟨hxm, hl, hEW, hE, vm0, k0, _, X', e', r2, by rw [hsz]; exact r3, r4, r5, r6.trans (CHr.wr W' (r7 a hs).2 r6.1), fun x hx => ⟨by rw [hsz]; exact (r7 x hx).1, Safe.wr W' (r7 a hs).2 r6.1 (r7 x hx).2⟩, Fr.snoc X' r8 ha⟩
theorem Wk.putf {R0 O nm d host C : String} {index kk : Nat} {ty : FieldType} {a : Addr} {v old : Value} (W : Wk p l e R s m args below meth c Z a0 EL own sf T h k n) (w : (Cond.fieldLink own index R0 nm d).before a0 Z = true ∨ (Cond.fieldLinkNest own index R0 nm d host).before a0 Z = true) (via : Via Z R0 O nm d) (F : Fld Z h a O nm d old) (E : Exa Z h a C) (Lw : (Cond.lays C O nm d).before a0 Z = true ∨ ((Cond.laysFinal C O nm d).before a0 Z = true ∧ own = O ∧ meth.name = "<init>")) (wi : (Cond.instantiable C kk).before a0 Z = true)
    (hty : parseFieldDescriptor d = some ty) (hn : narrow ty v = v) (hf : fits ty v = true) (ha : Z.heap.size ≤ a) (hs : a ∈ sf) (hd : decode c.code pc = .ok (.putfield index, 3))
    (go : ∀ T' h', Wk p l e R s m args below meth c Z a0 EL own sf T' h' k n → Wr h h' a (RoadKit.slotOf Z O nm d) v → Go p e below s Z EL rc rs Q (T'.setTop (mkF m (pc + 3) Ls rest))) : Go p e below s Z EL rc rs Q (T.setTop (mkF m pc Ls (v :: .ref a :: rest))) := by
  obtain ⟨w1, w2, w3, w4, vm0, k0, L, X, r1, r2, r3, r4, r5, r6, r7, r8⟩ := W
  obtain ⟨T', h', X', e', W', st⟩ := putF X w1 r4 r5 w via r1 F E Lw wi hty hn hf (g := mkF m pc Ls (v :: .ref a :: rest)) rfl rfl hd
  exact Go.by st (go T' h' (Wk.wrote w1 w2 w3 w4 X' e' W' r2 r3 r4 r5 r6 r7 r8 ha hs) W')
theorem Wk.putfn {R0 O nm d C : String} {index kk : Nat} {ty : FieldType} {a : Addr} {v v' old : Value} (W : Wk p l e R s m args below meth c Z a0 EL own sf T h k n) (w : (Cond.fieldLink own index R0 nm d).before a0 Z = true) (via : Via Z R0 O nm d) (F : Fld Z h a O nm d old) (E : Exa Z h a C) (Lw : (Cond.lays C O nm d).before a0 Z = true ∨ ((Cond.laysFinal C O nm d).before a0 Z = true ∧ own = O ∧ meth.name = "<init>")) (wi : (Cond.instantiable C kk).before a0 Z = true)
    (hty : parseFieldDescriptor d = some ty) (hn : narrow ty v = v') (hf : fits ty v' = true) (ha : Z.heap.size ≤ a) (hs : a ∈ sf) (hd : decode c.code pc = .ok (.putfield index, 3))
    (go : ∀ T' h', Wk p l e R s m args below meth c Z a0 EL own sf T' h' k n → Wr h h' a (RoadKit.slotOf Z O nm d) v' → Go p e below s Z EL rc rs Q (T'.setTop (mkF m (pc + 3) Ls rest))) : Go p e below s Z EL rc rs Q (T.setTop (mkF m pc Ls (v :: .ref a :: rest))) := by
  obtain ⟨w1, w2, w3, w4, vm0, k0, L, X, r1, r2, r3, r4, r5, r6, r7, r8⟩ := W
  obtain ⟨T', h', X', e', W', st⟩ := putFN X w1 r4 r5 w via r1 F E Lw wi hty hn hf (g := mkF m pc Ls (v :: .ref a :: rest)) rfl rfl hd
  exact Go.by st (go T' h' (Wk.wrote w1 w2 w3 w4 X' e' W' r2 r3 r4 r5 r6 r7 r8 ha hs) W')
/-! making -/
theorem Wk.grew {x : Addr} {T' : State} {L : List Loc} {vm0 : Vm} {k0 : Nat} (hxm : p.tables.exec = Jvm.exec) (hl : meth.locks = false) (hEW : EW Z a0 EL) (hE : Ext Z.heap s.heap) (X' : Stand p l e R (s.setVm vm0) m args below meth c T' L k' n') (e' : T'.heap = h') (E : Ext h h') (hx : x < h'.size) (hn : h.size ≤ x) (r2 : s.Since vm0 k0) (r3 : k0 ≤ h.size) (r4 : Z.Warmed39 vm0) (r5 : vm0.findClass own = some m.cls) (r6 : CHr Z EL s.vm s.heap vm0 h) (r7 : ∀ x ∈ sf, x < h.size ∧ Safe Z EL vm0 h x) (r8 : Fr Z.heap.size L) :
    Wk p l e R s m args below meth c Z a0 EL own (x :: sf) T' h' k' n' :=
  ⟨hxm, hl, hEW, hE, vm0, k0, L, X', e', r2, Nat.le_trans r3 E.1, r4, r5, r6.trans (CHr.ext E r6.1), fun y hy => by
    rcases List.mem_cons.mp hy with rfl | hy
    · exact ⟨hx, Safe.ext E r6.1 (Safe.new hn)⟩
    · exact ⟨Nat.lt_of_lt_of_le (r7 y hy).1 E.1, Safe.ext E r6.1 (r7 y hy).2⟩, r8⟩
theorem Wk.new {C : String} {index N : Nat} (W : Wk p l e R s m args below meth c Z a0 EL own sf T h k n) (w : (Cond.classLink own index C).before a0 Z = true) (wi : (Cond.instantiable C N).before a0 Z = true) (wz : (Cond.initialized C).before a0 Z = true) (hd : decode c.code pc = .ok (.new index, 3)) (ek : k + 1 = k') (en : n + N = n') (hk : k' ≤ R.cells) (hn : n' ≤ R.slots)
    (go : ∀ T' h' x, Wk p l e R s m args below meth c Z a0 EL own (x :: sf) T' h' k' n' → Ext h h' → h.size = x → Z.heap.size ≤ x → Exa Z h' x C → (∀ {O nm d : String} {ty : FieldType}, Laid Z a0 C O nm d → parseFieldDescriptor d = some ty → Fld Z h' x O nm d (defaultValue ty)) → Go p e below s Z EL rc rs Q (T'.setTop (mkF m (pc + 3) Ls (.ref x :: stk)))) : Go p e below s Z EL rc rs Q (T.setTop (mkF m pc Ls stk)) := by
  have hO := W.old
  obtain ⟨w1, w2, w3, w4, vm0, k0, L, X, r1, r2, r3, r4, r5, r6, r7, r8⟩ := W
  subst ek en
  obtain ⟨T', h', X', e', E, A, D, -, st⟩ := newO X w1 r4 r5 w wi wz r1 (g := mkF m pc Ls stk) rfl hd hk hn
  exact Go.by st (go T' h' _ (Wk.grew w1 w2 w3 w4 X' e' E A.lt (Nat.le_refl _) r2 r3 r4 r5 r6 r7 r8) E rfl hO.1 A D)
theorem Wk.newp {aty : ArrayType} {z : Int32} {cap : Nat} {ad : String} (W : Wk p l e R s m args below meth c Z a0 EL own sf T h k n) (w : (Cond.arrayClass (newarray.typeOf aty)).before a0 Z = true) (hd : decode c.code pc = .ok (.newarray aty, 2)) (hz : ¬ z < 0) (hcap : z.toNatClampNeg ≤ cap) (hb : cap * 8 ≤ 536870912) (ek : k + 1 = k') (en : n + cap = n') (hk : k' ≤ R.cells) (hn : n' ≤ R.slots) (had : "[" ++ (newarray.typeOf aty).toString = ad)
    (go : ∀ T' h' x kA, Wk p l e R s m args below meth c Z a0 EL own (x :: sf) T' h' k' n' → Ext h h' → h.size = x → Z.heap.size ≤ x → Exa Z h' x ad → Arv Z h' x kA (newarray.typeOf aty) z [] (defaultValue (newarray.typeOf aty)) → Go p e below s Z EL rc rs Q (T'.setTop (mkF m (pc + 2) Ls (.ref x :: rest)))) : Go p e below s Z EL rc rs Q (T.setTop (mkF m pc Ls (.int z :: rest))) := by
  have hO := W.old
  obtain ⟨w1, w2, w3, w4, vm0, k0, L, X, r1, r2, r3, r4, r5, r6, r7, r8⟩ := W
  subst ek en
  obtain ⟨T', h', cA, X', e', E, A, D, st⟩ := newPE X w1 r4 w r1 (g := mkF m pc Ls (.int z :: rest)) rfl hd rfl hz hcap hb hk hn had
  exact Go.by st (go T' h' _ cA (Wk.grew w1 w2 w3 w4 X' e' E D.lt (Nat.le_refl _) r2 r3 r4 r5 r6 r7 r8) E rfl hO.1 D (Arv.new A hz))
theorem Wk.newr {C : String} {index : Nat} {z : Int32} {cap : Nat} {ad : String} (W : Wk p l e R s m args below meth c Z a0 EL own sf T h k n) (wl : (Cond.classLink own index C).before a0 Z = true) (w : (Cond.arrayOver (.object C)).before a0 Z = true) (hd : decode c.code pc = .ok (.anewarray index, 3)) (hz : ¬ z < 0) (hcap : z.toNatClampNeg ≤ cap) (hb : cap * 8 ≤ 536870912) (ek : k + 1 = k') (en : n + cap = n') (hk : k' ≤ R.cells) (hn : n' ≤ R.slots) (had : "[" ++ (FieldType.object C).toString = ad)
    (go : ∀ T' h' x kA, Wk p l e R s m args below meth c Z a0 EL own (x :: sf) T' h' k' n' → Ext h h' → h.size = x → Z.heap.size ≤ x → Exa Z h' x ad → Arv Z h' x kA (.object C) z [] .null → Ovr Z kA C → Go p e below s Z EL rc rs Q (T'.setTop (mkF m (pc + 3) Ls (.ref x :: rest)))) : Go p e below s Z EL rc rs Q (T.setTop (mkF m pc Ls (.int z :: rest))) := by
  have hO := W.old
  obtain ⟨w1, w2, w3, w4, vm0, k0, L, X, r1, r2, r3, r4, r5, r6, r7, r8⟩ := W
  subst ek en
  obtain ⟨T', h', cA, X', e', E, A, D, O, st⟩ := newRE X w1 r4 r5 wl w r1 (g := mkF m pc Ls (.int z :: rest)) rfl hd rfl hz hcap hb hk hn had
  exact Go.by st (go T' h' _ cA (Wk.grew w1 w2 w3 w4 X' e' E D.lt (Nat.le_refl _) r2 r3 r4 r5 r6 r7 r8) E rfl hO.1 D (Arv.new A hz) O)
theorem Wk.initO {index Wt : Nat} {a : Addr} (W : Wk p l e R s m args below meth c Z a0 EL own sf T h k n) (w1 : (Cond.methodLink own index Lib.objectInit).before a0 Z = true) (w2 : (Cond.instanceMethod Lib.objectInit).before a0 Z = true) (w3 : (Cond.code Lib.objectInit ⟨#[0xb1]⟩ 1 none).before a0 Z = true) (hsz : Ls.size = c.maxLocals) (hd : decode c.code pc = .ok (.invokespecial index, 3)) (hf : 1 ≤ R.frames) (hW : (rest.map fun v => v.category).sum ≤ Wt) (hl : Wt + 12 ≤ R.locals)
    (go : ∀ T', Wk p l e R s m args below meth c Z a0 EL own sf T' h k n → Go p e below s Z EL rc rs Q (T'.setTop (mkF m (pc + 3) Ls rest))) : Go p e below s Z EL rc rs Q (T.setTop (mkF m pc Ls (.ref a :: rest))) := by
  obtain ⟨u1, u2, u3, u4, vm0, k0, L, X, r1, r2, r3, r4, r5, r⟩ := W
  obtain ⟨T', X', e', st⟩ := Jvm.RoadKit.initO X u1 r4 r5 w1 w2 w3 r1 (g := mkF m pc Ls (.ref a :: rest)) rfl hsz rfl hd hf (W := Wt) (by show 2 * 0 + _ ≤ _; omega) hl
  exact Go.by st (go T' ⟨u1, u2, u3, u4, vm0, k0, L, X', e', r2, r3, r4, r5, r⟩)
/-! calls -/
theorem backK {y : MethodName} {bytes : ByteArray} {maxL : Nat} {ret : Option FieldType} {rm : Room} {len Wt : Nat} {as' : Array Value} {vm0 : Vm} {sf' : List Addr} {Qc : Option Value → Heap → Prop}
    (hM : Con l Z EL sf' y bytes maxL ret [] rm as' h Qc) (hZ : Z.Warmed39 vm0) (wc : (Cond.code y bytes maxL ret).before a0 Z = true) (wz : (Cond.initialized y.cls).before a0 Z = true) (hf : rm.frames + 1 ≤ R.frames) (hl : Wt + (maxL + 11) + rm.locals ≤ R.locals) (hEL : EW Z a0 EL) (H : CHv Z EL vm0 h) (hsf : ∀ x ∈ sf', x < h.size ∧ Safe Z EL vm0 h x) :
    BackS l R p e below (s.setVm vm0) args y len Wt (fun A a => a = as' ∧ A.U.heap = h ∧ A.cells + rm.cells ≤ R.cells ∧ A.slots + rm.slots ≤ R.slots)
      (fun A _ v B => ∃ L, (Qc v B.U.heap ∧ Fr Z.heap.size L) ∧ B.locs = A.locs ++ L ∧ B.cells = A.cells + rm.cells ∧ B.slots = A.slots + rm.slots ∧ CHr Z EL vm0 h B.U.vm B.U.heap) :=
  BackS.of_freeW (bytes := bytes) (maxL := maxL) (ret := ret) (E := fun _ first o t L k n => k = rm.cells ∧ n = rm.slots ∧ (∃ v, o = .returned v ∧ (Qc v t.heap ∧ Fr Z.heap.size L)) ∧ CHr Z EL first.vm first.heap t.vm t.heap) hM hf hl
    (fun m meth c A a Y hp => have hU : Z.Warmed39 A.U.vm := wtrans (s := s.setVm vm0) hZ Y.warmed
      ⟨by show (Cond.and _ .tt).before a A.U = true; rw [Cond.before_and, mv hU wc]; rfl, mv hU wc, mv hU wz, hp.2.2.1, hp.2.2.2⟩)
    (fun m meth c A a g mk Y hp => ⟨hp.1, wtrans (s := s.setVm vm0) hZ Y.warmed, hp.2.1, (CHv.at Y hZ hEL H).1, fun x hx => (CHv.at Y hZ hEL H).safe (hsf x hx).1 (hsf x hx).2⟩) (fun _ _ _ _ _ _ _ _ _ => trivial)
    (fun _ _ _ _ ⟨v, L, h1, h2, h3, h4⟩ => ⟨L, _, _, h4, rfl, rfl, ⟨v, h1, h2⟩, h3⟩)
    (fun m meth c A a g mk v t L k n Y hp _ _ ⟨e1, e2, ⟨v', e3, e4⟩, e5⟩ => by
      cases e3; subst e1 e2
      refine ⟨L, e4, rfl, rfl, rfl, (CHv.at Y hZ hEL H).trans ?_⟩
      rw [← hp.2.1]; exact e5)
theorem Wk.came {B : Pt} {v : Option Value} {rm : Room} {vm0 : Vm} {k0 : Nat} {L Lc : List Loc} {Qc : Option Value → Heap → Prop} (hxm : p.tables.exec = Jvm.exec) (hl : meth.locks = false) (hEW : EW Z a0 EL) (hE : Ext Z.heap s.heap) (X' : Stand p l e R ((s.setVm vm0).setVm B.U.vm) m args below meth c B.U B.locs B.cells B.slots) (hS : (s.setVm vm0).Since B.U.vm B.U.heap.size) (hg : h.size ≤ B.U.heap.size)
    (q : (Qc v B.U.heap ∧ Fr Z.heap.size Lc) ∧ B.locs = L ++ Lc ∧ B.cells = k + rm.cells ∧ B.slots = n + rm.slots ∧ CHr Z EL vm0 h B.U.vm B.U.heap) (r2 : s.Since vm0 k0) (r3 : k0 ≤ h.size) (r4 : Z.Warmed39 vm0) (r5 : vm0.findClass own = some m.cls) (r6 : CHr Z EL s.vm s.heap vm0 h) (r7 : ∀ x ∈ sf, x < h.size ∧ Safe Z EL vm0 h x) (r8 : Fr Z.heap.size L) (ek : k + rm.cells = k') (en : n + rm.slots = n') :
    Wk p l e R s m args below meth c Z a0 EL own sf B.U B.U.heap k' n' := by
  obtain ⟨⟨q1, q2⟩, q3, q4, q5, q6⟩ := q
  rw [q3, q4, q5, ek, en] at X'
  obtain ⟨Y1, Y2, Y3, Y4⟩ := rebS r2 r3 X' hS hg r4 r5
  exact ⟨hxm, hl, hEW, hE, _, _, _, Y1, rfl, Y2, Nat.le_refl _, Y3, Y4, r6.trans q6, fun x hx => ⟨Nat.lt_of_lt_of_le (r7 x hx).1 hg, q6.safe (r7 x hx).1 (r7 x hx).2⟩, r8.app q2⟩
theorem Wk.callS {y : MethodName} {index Wt maxL : Nat} {bytes : ByteArray} {ret : Option FieldType} {rm : Room} {as' : Array Value} {sf' : List Addr} {argsL : List Value} {Qc : Option Value → Heap → Prop} (W : Wk p l e R s m args below meth c Z a0 EL own sf T h k n) (w1 : (Cond.methodLink own index y).before a0 Z = true) (w2 : (Cond.static y).before a0 Z = true) (w3 : (Cond.initialized y.cls).before a0 Z = true) (w4 : (Cond.code y bytes maxL ret).before a0 Z = true) (hy : y.cls ≠ "java/lang/invoke/MethodHandle" ∧ y.cls ≠ "java/lang/invoke/VarHandle")
    (hM : Con l Z EL sf' y bytes maxL ret [] rm as' h Qc) (hsf : ∀ x ∈ sf', x ∈ sf) (hf : rm.frames + 1 ≤ R.frames) (hl : Wt + (maxL + 11) + rm.locals ≤ R.locals) (ek : k + rm.cells = k') (en : n + rm.slots = n') (hk : k' ≤ R.cells) (hn : n' ≤ R.slots) (hsz : Ls.size = c.maxLocals) (hlen : ∀ sig, parseMethodDescriptor y.desc = some sig → argsL.length = sig.parameters.length) (hst : stk = argsL.reverse ++ rest) (has : argsL.toArray = as') (hW : (rest.map fun v => v.category).sum ≤ Wt) (hd : decode c.code pc = .ok (.invokestatic index, 3))
    (go : ∀ v T' h', Wk p l e R s m args below meth c Z a0 EL own sf T' h' k' n' → Qc v h' → Go p e below s Z EL rc rs Q (T'.setTop (mkF m (pc + 3) Ls (v.toList ++ rest)))) : Go p e below s Z EL rc rs Q (T.setTop (mkF m pc Ls stk)) := by
  obtain ⟨u1, u2, u3, u4, vm0, k0, L, X, rfl, r2, r3, r4, r5, r6, r7, r8⟩ := W
  obtain ⟨v, vm₁, B, -, X', hS, hg, ⟨Lc, q⟩, st⟩ := callSS X u1 (y := y) r5 (mvT (s := s.setVm vm0) r4 w1) (mvT (s := s.setVm vm0) r4 w2) (mvT (s := s.setVm vm0) r4 w3) (mvT (s := s.setVm vm0) r4 w4) hy (backK (Wt := Wt) hM r4 w4 w3 hf hl u3 r6.1 fun x hx => r7 x (hsf x hx)) (g := mkF m pc Ls stk) rfl hsz (argsL := argsL) (rest := rest) hlen hst (by show 2 * 0 + _ ≤ _; omega) hd (fun _ _ => ⟨has, rfl, by rw [ek]; exact hk, by rw [en]; exact hn⟩)
  exact Go.of st (go v B.U B.U.heap (Wk.came u1 u2 u3 u4 X' hS hg q r2 r3 r4 r5 r6 r7 r8 ek en) q.1.1)
theorem Wk.callI {y : MethodName} {index Wt maxL : Nat} {bytes : ByteArray} {rm : Room} {as' : Array Value} {sf' : List Addr} {a : Addr} {argsL : List Value} {Qc : Option Value → Heap → Prop} (W : Wk p l e R s m args below meth c Z a0 EL own sf T h k n) (hy1 : y.name = "<init>") (w1 : (Cond.methodLink own index y).before a0 Z = true) (w2 : (Cond.instanceMethod y).before a0 Z = true) (w3 : (Cond.initialized y.cls).before a0 Z = true) (w4 : (Cond.code y bytes maxL none).before a0 Z = true) (hy : y.cls ≠ "java/lang/invoke/MethodHandle" ∧ y.cls ≠ "java/lang/invoke/VarHandle")
    (hM : Con l Z EL sf' y bytes maxL none [] rm as' h Qc) (hsf : ∀ x ∈ sf', x ∈ sf) (hf : rm.frames + 1 ≤ R.frames) (hl : Wt + (maxL + 11) + rm.locals ≤ R.locals) (ek : k + rm.cells = k') (en : n + rm.slots = n') (hk : k' ≤ R.cells) (hn : n' ≤ R.slots) (hsz : Ls.size = c.maxLocals) (hlen : ∀ sig, parseMethodDescriptor y.desc = some sig → argsL.length = sig.parameters.length) (hst : stk = argsL.reverse ++ .ref a :: rest) (has : (.ref a :: argsL).toArray = as') (hW : (rest.map fun v => v.category).sum ≤ Wt) (hd : decode c.code pc = .ok (.invokespecial index, 3))
    (go : ∀ v T' h', Wk p l e R s m args below meth c Z a0 EL own sf T' h' k' n' → Qc v h' → Go p e below s Z EL rc rs Q (T'.setTop (mkF m (pc + 3) Ls (v.toList ++ rest)))) : Go p e below s Z EL rc rs Q (T.setTop (mkF m pc Ls stk)) := by
  obtain ⟨u1, u2, u3, u4, vm0, k0, L, X, rfl, r2, r3, r4, r5, r6, r7, r8⟩ := W
  obtain ⟨v, vm₁, B, -, X', hS, hg, ⟨Lc, q⟩, st⟩ := X.specialBackS u1 (y := y) hy1 r5 (mvT (s := s.setVm vm0) r4 w1) (mvT (s := s.setVm vm0) r4 w2) (mvT (s := s.setVm vm0) r4 w4) hy (backK (Wt := Wt) hM r4 w4 w3 hf hl u3 r6.1 fun x hx => r7 x (hsf x hx)) (g := mkF m pc Ls stk) rfl hsz (Steps.refl _) (a := a) (argsL := argsL) (rest := rest) hlen hst (by show 2 * 0 + _ ≤ _; omega) hd (fun _ _ => ⟨has, rfl, by rw [ek]; exact hk, by rw [en]; exact hn⟩)
  exact Go.of st (go v B.U B.U.heap (Wk.came u1 u2 u3 u4 X' hS hg q r2 r3 r4 r5 r6 r7 r8 ek en) q.1.1)
theorem Wk.callV {y z : MethodName} {index Wt maxL : Nat} {C : String} {bytes : ByteArray} {ret : Option FieldType} {rm : Room} {as' : Array Value} {sf' : List Addr} {a : Addr} {argsL : List Value} {Qc : Option Value → Heap → Prop} (W : Wk p l e R s m args below meth c Z a0 EL own sf T h k n) (w1 : (Cond.methodLink own index y).before a0 Z = true) (w2 : (Cond.declares y).before a0 Z = true) (hnf : ∀ vm : Vm, Z.Warmed39 vm → NotFace (s.setVm vm) y) (w3 : (Cond.selects C y z).before a0 Z = true) (w5 : (Cond.instanceMethod z).before a0 Z = true) (w6 : (Cond.initialized z.cls).before a0 Z = true) (w4 : (Cond.code z bytes maxL ret).before a0 Z = true) (hy : y.cls ≠ "java/lang/invoke/MethodHandle" ∧ y.cls ≠ "java/lang/invoke/VarHandle") (E : Exa Z h a C)
    (hM : Con l Z EL sf' z bytes maxL ret [] rm as' h Qc) (hsf : ∀ x ∈ sf', x ∈ sf) (hf : rm.frames + 1 ≤ R.frames) (hl : Wt + (maxL + 11) + rm.locals ≤ R.locals) (ek : k + rm.cells = k') (en : n + rm.slots = n') (hk : k' ≤ R.cells) (hn : n' ≤ R.slots) (hsz : Ls.size = c.maxLocals) (hlen : ∀ sig, parseMethodDescriptor y.desc = some sig → argsL.length = sig.parameters.length) (hst : stk = argsL.reverse ++ .ref a :: rest) (has : (.ref a :: argsL).toArray = as') (hW : (rest.map fun v => v.category).sum ≤ Wt) (hd : decode c.code pc = .ok (.invokevirtual index, 3))
    (go : ∀ v T' h', Wk p l e R s m args below meth c Z a0 EL own sf T' h' k' n' → Qc v h' → Go p e below s Z EL rc rs Q (T'.setTop (mkF m (pc + 3) Ls (v.toList ++ rest)))) : Go p e below s Z EL rc rs Q (T.setTop (mkF m pc Ls stk)) := by
  obtain ⟨u1, u2, u3, u4, vm0, k0, L, X, rfl, r2, r3, r4, r5, r6, r7, r8⟩ := W
  obtain ⟨cq, kq, qa, qb, qc⟩ := isOf (s := s.setVm vm0) (T := T) r4 rfl E
  obtain ⟨v, vm₁, B, -, X', hS, hg, ⟨Lc, q⟩, st⟩ := X.virtualBackS u1 (y := y) (z := z) r5 (mvT (s := s.setVm vm0) r4 w1) (mvT (s := s.setVm vm0) r4 w2) (hnf vm0 r4) (mvT (s := s.setVm vm0) r4 w3) (mvT (s := s.setVm vm0) r4 w5) hy (backK (Wt := Wt) hM r4 w4 w6 hf hl u3 r6.1 fun x hx => r7 x (hsf x hx)) qa qc (g := mkF m pc Ls stk) rfl hsz (Steps.refl _) (argsL := argsL) (rest := rest) hlen hst (by show 2 * 0 + _ ≤ _; omega) hd (fun _ _ => ⟨has, rfl, by rw [ek]; exact hk, by rw [en]; exact hn⟩)
  exact Go.of st (go v B.U B.U.heap (Wk.came u1 u2 u3 u4 X' hS hg q r2 r3 r4 r5 r6 r7 r8 ek en) q.1.1)
theorem nf_sel {y z : MethodName} {C : String} (hyz : y = z) (w3 : (Cond.selects C y z).before a0 Z = true) : ∀ vm : Vm, Z.Warmed39 vm → NotFace (s.setVm vm) y := fun vm hv => by
  subst hyz; exact notFace_of_selects (args := #[]) (mvT (s := s.setVm vm) hv w3)
theorem cat1 {v : Value} (h : v.isRef = true) : v.category = 1 := by cases v <;> simp [Value.isRef, Value.category] at h ⊢
theorem fits_ref_of {ty : FieldType} {v : Value} (h : v.isRef = true) (ht : ty.isReference = true := by rfl) : fits ty v = true := by cases ty <;> first | (cases ht; done) | (cases v <;> simp [fits, Value.isRef] at h ⊢)
theorem narrow_ref_of {ty : FieldType} {v : Value} (h : v.isRef = true) : narrow ty v = v := by cases v <;> first | (simp [Value.isRef] at h; done) | (cases ty <;> rfl)
theorem iremW {tb : Tables} [Ours tb] {target : State} {g : JFrame} (hh : At T m c below) (hx : tb.exec = Jvm.exec) (hg : g.method = m) {x y : Int32} (hd : decode c.code g.pc = .ok (.irem, 1)) (hs : g.stack = .int y :: .int x :: rest) (hy : y ≠ 0) (hr : Steps tb e below (T.setTop { g with pc := g.pc + 1, stack := .int (x % y) :: rest }) target) : Steps tb e below (T.setTop g) target := by
  have q : x - x / y * y = x % y := irem_eq_mod x y
  exact XS.irem hh hx hg hd hs hy (by rw [q]; exact hr)
theorem acmpW {g : JFrame} {target : State} (W : Wk p l e R s m args below meth c Z a0 EL own sf T h k n) (hg : g.method = m) {cd : ACond} {x y : Value} (h1 : x.isRef = true) (h2 : y.isRef = true) {o : Int} {pc0 pc' : Nat} {same : Bool} (hpc : g.pc = pc0) (hd : decode c.code g.pc = .ok (.if_acmp cd o, 3)) (hs : g.stack = y :: x :: rest) (hq : decide (x = y) = same) (ho : 0 ≤ (pc0 : Int) + o) (hp : pc' = if acV cd same = true then ((pc0 : Int) + o).toNat else pc0 + 3)
    (hr : Steps p.tables e below (T.setTop { g with pc := pc', stack := rest }) target) : Steps p.tables e below (T.setTop g) target := by
  obtain ⟨w1, w2, w3, w4, vm0, k0, L, X, r⟩ := W
  exact Jvm.RoadKit.acmp X w1 hg h1 h2 hpc hd hs hq ho hp hr
theorem Wk.retJ {z : Int64} (W : Wk p l e R s m args below meth c Z a0 EL own sf T h k n) (hk : k ≤ rc) (hn : n ≤ rs) (hret : meth.sig.returnType = some .long) (hd : decode c.code pc = .ok (.lreturn, 1)) (q : Q (some (.long z)) h) : Go p e below s Z EL rc rs Q (T.setTop (mkF m pc Ls (.long z :: rest))) :=
  W.ret hk hn (fun h => by rw [hret] at h; cases h) q fun X fs hr => retOut X W.hx hret rfl (Or.inr (Or.inl ⟨rfl, rfl, z, rfl⟩)) hd hr
theorem Wk.callSp {y : MethodName} {index Wt maxL : Nat} {bytes : ByteArray} {ret : Option FieldType} {rm : Room} {as' : Array Value} {sf' : List Addr} {argsL : List Value} {r : Option Value} (W : Wk p l e R s m args below meth c Z a0 EL own sf T h k n) (w1 : (Cond.methodLink own index y).before a0 Z = true) (w2 : (Cond.static y).before a0 Z = true) (w3 : (Cond.initialized y.cls).before a0 Z = true) (w4 : (Cond.code y bytes maxL ret).before a0 Z = true) (hy : y.cls ≠ "java/lang/invoke/MethodHandle" ∧ y.cls ≠ "java/lang/invoke/VarHandle")
    (hM : Con l Z EL sf' y bytes maxL ret [] rm as' h (fun v h' => v = r ∧ h' = h)) (hsf : ∀ x ∈ sf', x ∈ sf) (hf : rm.frames + 1 ≤ R.frames) (hl : Wt + (maxL + 11) + rm.locals ≤ R.locals) (ek : k + rm.cells = k') (en : n + rm.slots = n') (hk : k' ≤ R.cells) (hn : n' ≤ R.slots) (hsz : Ls.size = c.maxLocals) (hlen : ∀ sig, parseMethodDescriptor y.desc = some sig → argsL.length = sig.parameters.length) (hst : stk = argsL.reverse ++ rest) (has : argsL.toArray = as') (hW : (rest.map fun v => v.category).sum ≤ Wt) (hd : decode c.code pc = .ok (.invokestatic index, 3))
    (go : ∀ T', Wk p l e R s m args below meth c Z a0 EL own sf T' h k' n' → Go p e below s Z EL rc rs Q (T'.setTop (mkF m (pc + 3) Ls (r.toList ++ rest)))) : Go p e below s Z EL rc rs Q (T.setTop (mkF m pc Ls stk)) :=
  W.callS w1 w2 w3 w4 hy hM hsf hf hl ek en hk hn hsz hlen hst has hW hd fun v T' h' W' ⟨q1, q2⟩ => by subst q1 q2; exact go T' W'
theorem Wk.callIp {y : MethodName} {index Wt maxL : Nat} {bytes : ByteArray} {rm : Room} {as' : Array Value} {sf' : List Addr} {a : Addr} {argsL : List Value} {r : Option Value} (W : Wk p l e R s m args below meth c Z a0 EL own sf T h k n) (hy1 : y.name = "<init>") (w1 : (Cond.methodLink own index y).before a0 Z = true) (w2 : (Cond.instanceMethod y).before a0 Z = true) (w3 : (Cond.initialized y.cls).before a0 Z = true) (w4 : (Cond.code y bytes maxL none).before a0 Z = true) (hy : y.cls ≠ "java/lang/invoke/MethodHandle" ∧ y.cls ≠ "java/lang/invoke/VarHandle")
    (hM : Con l Z EL sf' y bytes maxL none [] rm as' h (fun v h' => v = r ∧ h' = h)) (hsf : ∀ x ∈ sf', x ∈ sf) (hf : rm.frames + 1 ≤ R.frames) (hl : Wt + (maxL + 11) + rm.locals ≤ R.locals) (ek : k + rm.cells = k') (en : n + rm.slots = n') (hk : k' ≤ R.cells) (hn : n' ≤ R.slots) (hsz : Ls.size = c.maxLocals) (hlen : ∀ sig, parseMethodDescriptor y.desc = some sig → argsL.length = sig.parameters.length) (hst : stk = argsL.reverse ++ .ref a :: rest) (has : (.ref a :: argsL).toArray = as') (hW : (rest.map fun v => v.category).sum ≤ Wt) (hd : decode c.code pc = .ok (.invokespecial index, 3))
    (go : ∀ T', Wk p l e R s m args below meth c Z a0 EL own sf T' h k' n' → Go p e below s Z EL rc rs Q (T'.setTop (mkF m (pc + 3) Ls (r.toList ++ rest)))) : Go p e below s Z EL rc rs Q (T.setTop (mkF m pc Ls stk)) :=
  W.callI hy1 w1 w2 w3 w4 hy hM hsf hf hl ek en hk hn hsz hlen hst has hW hd fun v T' h' W' ⟨q1, q2⟩ => by subst q1 q2; exact go T' W'
theorem Wk.callVp {y z : MethodName} {index Wt maxL : Nat} {C : String} {bytes : ByteArray} {ret : Option FieldType} {rm : Room} {as' : Array Value} {sf' : List Addr} {a : Addr} {argsL : List Value} {r : Option Value} (W : Wk p l e R s m args below meth c Z a0 EL own sf T h k n) (w1 : (Cond.methodLink own index y).before a0 Z = true) (w2 : (Cond.declares y).before a0 Z = true) (hnf : ∀ vm : Vm, Z.Warmed39 vm → NotFace (s.setVm vm) y) (w3 : (Cond.selects C y z).before a0 Z = true) (w5 : (Cond.instanceMethod z).before a0 Z = true) (w6 : (Cond.initialized z.cls).before a0 Z = true) (w4 : (Cond.code z bytes maxL ret).before a0 Z = true) (hy : y.cls ≠ "java/lang/invoke/MethodHandle" ∧ y.cls ≠ "java/lang/invoke/VarHandle") (E : Exa Z h a C)
    (hM : Con l Z EL sf' z bytes maxL ret [] rm as' h (fun v h' => v = r ∧ h' = h)) (hsf : ∀ x ∈ sf', x ∈ sf) (hf : rm.frames + 1 ≤ R.frames) (hl : Wt + (maxL + 11) + rm.locals ≤ R.locals) (ek : k + rm.cells = k') (en : n + rm.slots = n') (hk : k' ≤ R.cells) (hn : n' ≤ R.slots) (hsz : Ls.size = c.maxLocals) (hlen : ∀ sig, parseMethodDescriptor y.desc = some sig → argsL.length = sig.parameters.length) (hst : stk = argsL.reverse ++ .ref a :: rest) (has : (.ref a :: argsL).toArray = as') (hW : (rest.map fun v => v.category).sum ≤ Wt) (hd : decode c.code pc = .ok (.invokevirtual index, 3))
    (go : ∀ T', Wk p l e R s m args below meth c Z a0 EL own sf T' h k' n' → Go p e below s Z EL rc rs Q (T'.setTop (mkF m (pc + 3) Ls (r.toList ++ rest)))) : Go p e below s Z EL rc rs Q (T.setTop (mkF m pc Ls stk)) :=
  W.callV w1 w2 hnf w3 w5 w6 w4 hy E hM hsf hf hl ek en hk hn hsz hlen hst has hW hd fun v T' h' W' ⟨q1, q2⟩ => by subst q1 q2; exact go T' W'
theorem Wk.callP {y : MethodName} {index Wt maxL : Nat} {C : String} {bytes : ByteArray} {ret : Option FieldType} {rm : Room} {as' : Array Value} {sf' : List Addr} {a : Addr} {argsL : List Value} {Qc : Option Value → Heap → Prop} (W : Wk p l e R s m args below meth c Z a0 EL own sf T h k n) (w1 : (Cond.methodLink own index y).before a0 Z = true) (w2 : (Cond.instanceMethod y).before a0 Z = true) (w3 : (Cond.selects y.cls y y).before a0 Z = true) (w5 : (Cond.privateMethod y).before a0 Z = true) (w6 : (Cond.initialized y.cls).before a0 Z = true) (w4 : (Cond.code y bytes maxL ret).before a0 Z = true) (hy : y.cls ≠ "java/lang/invoke/MethodHandle" ∧ y.cls ≠ "java/lang/invoke/VarHandle") (E : Exa Z h a C)
    (hM : Con l Z EL sf' y bytes maxL ret [] rm as' h Qc) (hsf : ∀ x ∈ sf', x ∈ sf) (hf : rm.frames + 1 ≤ R.frames) (hl : Wt + (maxL + 11) + rm.locals ≤ R.locals) (ek : k + rm.cells = k') (en : n + rm.slots = n') (hk : k' ≤ R.cells) (hn : n' ≤ R.slots) (hsz : Ls.size = c.maxLocals) (hlen : ∀ sig, parseMethodDescriptor y.desc = some sig → argsL.length = sig.parameters.length) (hst : stk = argsL.reverse ++ .ref a :: rest) (has : (.ref a :: argsL).toArray = as') (hW : (rest.map fun v => v.category).sum ≤ Wt) (hd : decode c.code pc = .ok (.invokevirtual index, 3))
    (go : ∀ v T' h', Wk p l e R s m args below meth c Z a0 EL own sf T' h' k' n' → Qc v h' → Go p e below s Z EL rc rs Q (T'.setTop (mkF m (pc + 3) Ls (v.toList ++ rest)))) : Go p e below s Z EL rc rs Q (T.setTop (mkF m pc Ls stk)) := by
  obtain ⟨u1, u2, u3, u4, vm0, k0, L, X, rfl, r2, r3, r4, r5, r6, r7, r8⟩ := W
  obtain ⟨cq, q1, q2⟩ := E.cell
  obtain ⟨v, vm₁, B, -, X', hS, hg, ⟨Lc, q⟩, st⟩ := X.privateBackS u1 (y := y) r5 (mvT (s := s.setVm vm0) r4 w1) (mvT (s := s.setVm vm0) r4 w2) (mvT (s := s.setVm vm0) r4 w3) (Cond.privateMethod_at (mvP (s := s.setVm vm0) r4 w5 (args := #[]))) (mvT (s := s.setVm vm0) r4 w4) hy (backK (Wt := Wt) hM r4 w4 w6 hf hl u3 r6.1 fun x hx => r7 x (hsf x hx)) (g := mkF m pc Ls stk) rfl hsz (Steps.refl _) (a := a) q1 q2 (argsL := argsL) (rest := rest) hlen hst (by show 2 * 0 + _ ≤ _; omega) hd (fun _ _ => ⟨has, rfl, by rw [ek]; exact hk, by rw [en]; exact hn⟩)
  exact Go.of st (go v B.U B.U.heap (Wk.came u1 u2 u3 u4 X' hS hg q r2 r3 r4 r5 r6 r7 r8 ek en) q.1.1)
theorem Wk.ldcI {index : Nat} {v : Int32} (W : Wk p l e R s m args below meth c Z a0 EL own sf T h k n) (w : (Cond.constant own index v).before a0 Z = true) (hd : decode c.code pc = .ok (.ldc index, 2)) (go : Go p e below s Z EL rc rs Q (T.setTop (mkF m (pc + 2) Ls (.int v :: stk)))) : Go p e below s Z EL rc rs Q (T.setTop (mkF m pc Ls stk)) := by
  obtain ⟨w1, w2, w3, w4, vm0, k0, L, X, r1, r2, r3, r4, r5, r⟩ := W
  exact Go.by (X.ldcInt w1 r5 (mvT (s := s.setVm vm0) r4 w) (g := mkF m pc Ls stk) rfl hd) go
theorem Wk.ldcJ {index : Nat} {v : Int64} (W : Wk p l e R s m args below meth c Z a0 EL own sf T h k n) (w : (Cond.constantLong own index v).before a0 Z = true) (hd : decode c.code pc = .ok (.ldc2_w index, 3)) (go : Go p e below s Z EL rc rs Q (T.setTop (mkF m (pc + 3) Ls (.long v :: stk)))) : Go p e below s Z EL rc rs Q (T.setTop (mkF m pc Ls stk)) := by
  obtain ⟨w1, w2, w3, w4, vm0, k0, L, X, r1, r2, r3, r4, r5, r⟩ := W
  exact Go.by (X.ldc2Long w1 r5 (mvT (s := s.setVm vm0) r4 w) (g := mkF m pc Ls stk) rfl hd) go
theorem Wk.cloneA {index Wt cap : Nat} {ad : String} {a : Addr} {kA : ClassId} {ty : FieldType} {z : Int32} {vs : List Value} {dv : Value} (W : Wk p l e R s m args below meth c Z a0 EL own sf T h k n) (w1 : (Cond.methodLink own index ⟨ad, "clone", "()Ljava/lang/Object;"⟩).before a0 Z = true) (w2 : (Cond.sameMethod ad "java/lang/Object" "clone" "()Ljava/lang/Object;").before a0 Z = true) (w3 : (Cond.native ⟨"java/lang/Object", "clone", "()Ljava/lang/Object;"⟩).before a0 Z = true)
    (w4 : (Cond.instanceMethod ⟨"java/lang/Object", "clone", "()Ljava/lang/Object;"⟩).before a0 Z = true) (w5 : (Cond.selects ad ⟨ad, "clone", "()Ljava/lang/Object;"⟩ ⟨"java/lang/Object", "clone", "()Ljava/lang/Object;"⟩).before a0 Z = true) (w6 : (Cond.castable ad "java/lang/Cloneable").before a0 Z = true) (F : Arv Z h a kA ty z vs dv) (E : Exa Z h a ad) (hsz : Ls.size = c.maxLocals) (hd : decode c.code pc = .ok (.invokevirtual index, 3))
    (hf : 1 ≤ R.frames) (hW : (rest.map fun v => v.category).sum ≤ Wt) (hl : Wt + 14 ≤ R.locals) (hcap : z.toNatClampNeg ≤ cap) (ek : k + 1 = k') (en : n + cap = n') (hk : k' ≤ R.cells) (hn : n' ≤ R.slots)
    (go : ∀ T' h' x, Wk p l e R s m args below meth c Z a0 EL own (x :: sf) T' h' k' n' → Ext h h' → h.size = x → Z.heap.size ≤ x → Arv Z h' x kA ty z vs dv → Exa Z h' x ad → Go p e below s Z EL rc rs Q (T'.setTop (mkF m (pc + 3) Ls (.ref x :: rest)))) : Go p e below s Z EL rc rs Q (T.setTop (mkF m pc Ls (.ref a :: rest))) := by
  have hO := W.old
  obtain ⟨u1, u2, u3, u4, vm0, k0, L, X, r1, r2, r3, r4, r5, r6, r7, r8⟩ := W
  subst ek en
  obtain ⟨T', h', X', e', E', A, D, st⟩ := cloneH X u1 r4 r5 w1 w2 w3 w4 w5 w6 r1 F.arh E (g := mkF m pc Ls (.ref a :: rest)) rfl hsz rfl hd hf (W := Wt) (by show 2 * 0 + _ ≤ _; omega) hl hcap hk hn
  exact Go.by st (go T' h' _ (Wk.grew u1 u2 u3 u4 X' e' E' D.lt (Nat.le_refl _) r2 r3 r4 r5 r6 r7 r8) E' rfl hO.1 A D)
/-- the terms elem t i, elem t (i + 1), .. hold vs -/
def HasE (args : Array Value) (Z : State) (t : Term) : Nat → List Value → Prop
  | _, [] => True
  | i, v :: vs => (Term.elem t (.int (Int32.ofNat i))).eval args Z none [] Z = some v ∧ HasE args Z t (i + 1) vs
theorem clampN {i : Nat} (h : i < 2 ^ 31) : (Int32.ofNat i).toNatClampNeg = i := by
  have := Int32.toInt_ofNat_small h
  rw [Int32.toNatClampNeg, this]; simp
theorem HasE.has {t : Term} {a : Addr} {cl : Cell} (ev : t.eval args Z none [] Z = some (.ref a)) (hc : Z.heap[a]? = some cl) : ∀ (vs : List Value) (i : Nat), i + vs.length < 2 ^ 31 → HasE args Z t i vs → HasL cl i vs
  | [], i, _, _ => trivial
  | v :: vs, i, hi, H => by
    have hl : (v :: vs).length = vs.length + 1 := rfl
    refine ⟨?_, HasE.has ev hc vs (i + 1) (by omega) H.2⟩
    have q := (elem_in H.1 ev (Term.int_eval _) hc).2
    rwa [clampN (by omega)] at q
theorem arv_of {t : Term} {a : Addr} {ty : FieldType} {z : Int32} {vs : List Value} {dv : Value} (hf : Fit Z) (ev : t.eval args Z none [] Z = some (.ref a)) (hA : (Cond.arrayOf t ty).value args Z none Z [] = some true) (hl : (Term.length t).eval args Z none [] Z = some (.int z)) (hz : ¬ z < 0) (hn : z.toNatClampNeg = vs.length) (hb : vs.length < 2 ^ 31) (H : HasE args Z t 0 vs) : ∃ k, Arv Z Z.heap a k ty z vs dv := by
  obtain ⟨cl, A⟩ := Arr.start ev hA
  have h1 := A.fin (Vm.Alike.refl _)
  have h31 := Jvm.Free.SBG.length_lt ev h1 hl
  have e1 := len_f ev h1 h31
  have e2 : cl.slots.size.toInt32 = z := by simpa using Option.some.inj (e1.symm.trans hl)
  exact ⟨cl.cls, Arv.start hf A h31 e2 hz hn (HasE.has ev A.1 vs 0 (by omega) H)⟩
end Kit
section KitStr
variable {p : Program} {l : Launch} {e : Env} {R : Room} {s : State} {m : MethodId} {args : Array Value} {below : List Frame} {meth : Method} {c : Code} {Z : State} {a0 : Array Value} {EL : List (String × Nat)} {own : String} {sf : List Addr} {T : State} {h h' h0 : Heap} {k n k' n' rc rs pc : Nat} {Ls : Array Slot} {stk rest : List Value} {Q : Option Value → Heap → Prop} {a x : Addr} {cs ds : List Int32}
/-- the object at a is a String that spells cs -/
def Str (Z : State) (h : Heap) (a : Addr) (cs : List Int32) : Prop := ∃ (t : Addr) (kb : ClassId) (cd N2 : Int32) (vs : List Value), Exa Z h a "java/lang/String" ∧ Fld Z h a "java/lang/String" "value" "[B" (.ref t) ∧ Fld Z h a "java/lang/String" "coder" "B" (.int cd) ∧ Arv Z h t kb .byte N2 vs (.int 0) ∧ StrChars.Road.CodA cs cd N2 vs ∧ (∀ c ∈ cs, ¬ c < 0 ∧ ¬ (65535 : Int32) < c)
theorem Str.ext (S : Str Z h a cs) (E : Ext h h') : Str Z h' a cs := by
  obtain ⟨t, kb, cd, N2, vs, s1, s2, s3, s4, s5, s6⟩ := S; exact ⟨t, kb, cd, N2, vs, s1.ext E, s2.ext E, s3.ext E, s4.ext E, s5, s6⟩
theorem Str.exa (S : Str Z h a cs) : Exa Z h a "java/lang/String" := by obtain ⟨t, kb, cd, N2, vs, s1, -⟩ := S; exact s1
theorem Str.lt (S : Str Z h a cs) : a < h.size := S.exa.lt
theorem Str.keep {C : String} {N : Nat} (S : Str Z h a cs) (K : Keep h h' [x]) (E : Exa Z h x C) (wi : (Cond.instantiable C N).before a0 Z = true) (ne : a ≠ x) : Str Z h' a cs := by
  obtain ⟨t, kb, cd, N2, vs, s1, s2, s3, s4, s5, s6⟩ := S
  exact ⟨t, kb, cd, N2, vs, s1.keep K, s2.keep K (ninS ne nin0), s3.keep K (ninS ne nin0), s4.keep K (ninS (Ne.symm (E.neArv s4 wi)) nin0), s5, s6⟩
theorem Str.wr {C : String} {N sl : Nat} {v : Value} (S : Str Z h a cs) (W : Wr h h' x sl v) (E : Exa Z h x C) (wi : (Cond.instantiable C N).before a0 Z = true) (ne : a ≠ x) : Str Z h' a cs := S.keep (Keep.of_wr W) E wi ne
theorem Ext.trans' {h h1 h2 : Heap} (A : Ext h h1) (B : Ext h1 h2) : Ext h h2 := ⟨Nat.le_trans A.1 B.1, fun a c q => B.2 a c (A.2 a c q)⟩
theorem Ext.refl' (h : Heap) : Ext h h := ⟨Nat.le_refl _, fun _ _ q => q⟩
theorem Ext.keep' {h h1 h2 : Heap} {ws : List Addr} (A : Ext h h1) (K : Keep h1 h2 ws) (q : ∀ x ∈ ws, h.size ≤ x) : Ext h h2 := ⟨Nat.le_trans A.1 K.1, fun a c r => K.2.1 a c (A.2 a c r) fun z => absurd (Array.getElem?_eq_some_iff.mp r).1 (Nat.not_lt.mpr (q a z))⟩
theorem Ext.wr' {h h1 h2 : Heap} {x : Addr} {sl : Nat} {v : Value} (A : Ext h h1) (W : Wr h1 h2 x sl v) (q : h.size ≤ x) : Ext h h2 := Ext.keep' A (Keep.of_wr W) (allS q all0)
theorem Wk.kept {ws : List Addr} {T' : State} {L : List Loc} {vm0 : Vm} {k0 : Nat} (hxm : p.tables.exec = Jvm.exec) (hl : meth.locks = false) (hEW : EW Z a0 EL) (hE : Ext Z.heap s.heap) (X' : Stand p l e R (s.setVm vm0) m args below meth c T' L k' n') (e' : T'.heap = h') (K : Keep h h' ws) (hws : ∀ x ∈ ws, x ∈ sf) (r2 : s.Since vm0 k0) (r3 : k0 ≤ h.size) (r4 : Z.Warmed39 vm0) (r5 : vm0.findClass own = some m.cls) (r6 : CHr Z EL s.vm s.heap vm0 h) (r7 : ∀ x ∈ sf, x < h.size ∧ Safe Z EL vm0 h x) (r8 : Fr Z.heap.size L) :
    Wk p l e R s m args below meth c Z a0 EL own sf T' h' k' n' :=
  ⟨hxm, hl, hEW, hE, vm0, k0, L, X', e', r2, Nat.le_trans r3 K.1, r4, r5, r6.trans (CHr.keep K (fun x hx => (r7 x (hws x hx)).2) r6.1), fun y hy => ⟨Nat.lt_of_lt_of_le (r7 y hy).1 K.1, Safe.keep K (fun x hx => (r7 x (hws x hx)).2) r6.1 (r7 y hy).2⟩, r8⟩
theorem pdCs : parseMethodDescriptor "([C)V" = some ⟨[(.array .char)], none⟩ := by decide +kernel
/-- new String(chars): 1 to 4000 chars, each below 256 -/
theorem Wk.strV {index Wt q : Nat} {b : Addr} {kC : ClassId} {dv v0 c0 : Value} {z N : Int32} (W : Wk p l e R s m args below meth c Z a0 EL own sf T h k n) (hws : ∀ d ∈ StrChars.Road.words, d.before a0 Z = true) (wi : (Cond.instantiable "java/lang/String" 4).before a0 Z = true) (w1 : (Cond.methodLink own index ⟨"java/lang/String", "<init>", "([C)V"⟩).before a0 Z = true) (w2 : (Cond.instanceMethod ⟨"java/lang/String", "<init>", "([C)V"⟩).before a0 Z = true)
    (E : Exa Z h x "java/lang/String") (V : Fld Z h x "java/lang/String" "value" "[B" v0) (C : Fld Z h x "java/lang/String" "coder" "B" c0) (K : Arv Z h b kC .char N (cs.map Value.int) dv) (S : Sta Z h "java/lang/String" "COMPACT_STRINGS" "Z" (.int z)) (hz : ¬ z = 0) (hq : cs.length = q) (hN : N = Int32.ofNat q) (l0 : 0 < q) (l2 : q ≤ 4000) (hp : ∀ c ∈ cs, ¬ c < 0 ∧ ¬ (255 : Int32) < c) (hx : Z.heap.size ≤ x) (hs : x ∈ sf)
    (hf : 4 ≤ R.frames) (hl : Wt + 65 ≤ R.locals) (ek : k + 1 = k') (en : n + q = n') (hk : k' ≤ R.cells) (hn : n' ≤ R.slots) (hsz : Ls.size = c.maxLocals) (hW : (rest.map fun v => v.category).sum ≤ Wt) (hd : decode c.code pc = .ok (.invokespecial index, 3))
    (go : ∀ T' h', Wk p l e R s m args below meth c Z a0 EL own sf T' h' k' n' → Keep h h' [x] → Str Z h' x cs → Go p e below s Z EL rc rs Q (T'.setTop (mkF m (pc + 3) Ls rest))) : Go p e below s Z EL rc rs Q (T.setTop (mkF m pc Ls (.ref b :: .ref x :: rest))) := by
  have hO := W.old
  obtain ⟨u1, u2, u3, u4, vm0, k0, L, X, rfl, r2, r3, r4, r5, r6, r7, r8⟩ := W
  obtain ⟨v, vm₁, ⟨T', L', k1, n1⟩, -, X', ⟨Lc, hQ, l', y', z'⟩, st⟩ := X.specialBack u1 (y := (⟨"java/lang/String", "<init>", "([C)V"⟩ : MethodName)) rfl r5 (mvT (s := s.setVm vm0) r4 w1) (mvT (s := s.setVm vm0) r4 w2) (mvT (s := s.setVm vm0) r4 (hws _ (List.mem_cons_self ..))) (by decide)
    (StrChars.Road.backV (W := Wt) (s := s.setVm vm0) r4 hws wi (bs := cs.map (fun c => c.toInt8.toInt32)) hx hO.1 E V C K S hz hq hN l0 l2 hp rfl hf hl) (g := mkF m pc Ls (.ref b :: .ref x :: rest)) rfl hsz (Steps.refl _) (a := x) (argsL := [.ref b]) (rest := rest) (lenOf pdCs rfl) rfl (by show 2 * 0 + _ ≤ _; omega) hd (fun _ _ => ⟨rfl, rfl, by rw [ek]; exact hk, by rw [en]; exact hn⟩)
  dsimp only [Pt.U, Pt.locs, Pt.cells, Pt.slots] at X' l' y' z' st hQ
  subst l' y' z'
  obtain ⟨rfl, N', K', g1, g2, t, kb, -, -, -, g3, g4⟩ := hQ
  rw [ek, en] at X'
  subst hq hN
  exact Go.of st (go T' T'.heap (Wk.kept u1 u2 u3 u4 X' rfl K' (allS hs all0) r2 r3 r4 r5 r6 r7 (r8.app N')) K' ⟨t, kb, 0, _, _, g1, g3, g2, g4, StrChars.Road.codOf rfl (fun c hc => (hp c hc).2), fun c hc => ⟨(hp c hc).1, fun q => (hp c hc).2 (by rw [Int32.lt_iff_toInt_lt] at q ⊢; have e1 : (65535 : Int32).toInt = 65535 := rfl; have e2 : (255 : Int32).toInt = 255 := rfl; omega)⟩⟩)
/-! literals -/
/-- ldc of a String literal, whose text isn't asked -/
theorem Wk.ldcO {index q : Nat} {text : String} (W : Wk p l e R s m args below meth c Z a0 EL own sf T h k n) (w : (Cond.stringLink own index text).before a0 Z = true) (wS : ∀ a ∈ Bundle.stringAtoms, a.before a0 Z = true) (hd : decode c.code pc = .ok (.ldc index, 2)) (hq : 4 * text.toList.length ≤ q) (hbig : q ≤ 536870912) (ek : k + 2 = k') (en : n + (q + 4) = n') (hk : k' ≤ R.cells) (hn : n' ≤ R.slots)
    (go : ∀ T' h' a, Wk p l e R s m args below meth c Z a0 EL own sf T' h' k' n' → Ext h h' → Go p e below s Z EL rc rs Q (T'.setTop (mkF m (pc + 2) Ls (.ref a :: stk)))) : Go p e below s Z EL rc rs Q (T.setTop (mkF m pc Ls stk)) := by
  obtain ⟨u1, u2, u3, u4, vm0, k0, L, X, r1, r2, r3, r4, r5, r6, r7, r8⟩ := W
  subst ek en
  obtain ⟨a, T', h', k1, X', e', E, hS, hk1, hW, hf, hC, -, st⟩ := ldcOH X u1 r4 r5 w wS r1 r2 r3 u3 r6.1 (g := mkF m pc Ls stk) rfl hd hq hbig hk hn
  exact Go.by st (go T' h' a ⟨u1, u2, u3, u4, T'.vm, k1, L, X', e', hS, hk1, hW, hf, r6.trans hC, fun x hx => ⟨Nat.lt_of_lt_of_le (r7 x hx).1 E.1, hC.safe (r7 x hx).1 (r7 x hx).2⟩, r8⟩ E)
/-- ldc of a String literal, read -/
theorem Wk.ldcC {index q : Nat} {text : String} (W : Wk p l e R s m args below meth c Z a0 EL own sf T h k n) (w : (Cond.stringLink own index text).before a0 Z = true) (wS : ∀ a ∈ Bundle.stringAtoms, a.before a0 Z = true) (hmem : (own, index) ∈ EL) (ht : (∀ c ∈ text.toList, c.toNat < 256) ∧ text.toList.map (fun c => Value.int (Jvm.Lit.byteI c.toNat.toUInt16)) = cs.map (fun c => Value.int (StrChars.lo8 c))) (hz : ¬ (Int32.ofNat cs.length) < 0) (hl : (Int32.ofNat cs.length).toNatClampNeg = cs.length) (hb : ∀ c ∈ cs, ¬ c < 0 ∧ ¬ (255 : Int32) < c ∧ ¬ (65535 : Int32) < c)
    (hd : decode c.code pc = .ok (.ldc index, 2)) (hq : 4 * text.toList.length ≤ q) (hbig : q ≤ 536870912) (ek : k + 2 = k') (en : n + (q + 4) = n') (hk : k' ≤ R.cells) (hn : n' ≤ R.slots)
    (go : ∀ T' h' a, Wk p l e R s m args below meth c Z a0 EL own sf T' h' k' n' → Ext h h' → Str Z h' a cs → (∀ x ∈ sf, x ≠ a) → Go p e below s Z EL rc rs Q (T'.setTop (mkF m (pc + 2) Ls (.ref a :: stk)))) : Go p e below s Z EL rc rs Q (T.setTop (mkF m pc Ls stk)) := by
  obtain ⟨u1, u2, u3, u4, vm0, k0, L, X, r1, r2, r3, r4, r5, r6, r7, r8⟩ := W
  subst ek en
  obtain ⟨a, T', h', k1, b, kb, X', e', E, hS, hk1, hW, hf, g1, g2, g3, g4, -, -, hC, -, hne, st⟩ := ldcCH X u1 r4 r5 w wS r1 r2 r3 u3 hmem r6.1 ht hz (by rw [hl, List.length_map]) (g := mkF m pc Ls stk) rfl hd hq hbig hk hn
  exact Go.by st (go T' h' a ⟨u1, u2, u3, u4, T'.vm, k1, L, X', e', hS, hk1, hW, hf, r6.trans hC, fun x hx => ⟨Nat.lt_of_lt_of_le (r7 x hx).1 E.1, hC.safe (r7 x hx).1 (r7 x hx).2⟩, r8⟩ E ⟨b, kb, 0, _, _, g1, g3, g2, g4, Or.inl ⟨rfl, rfl, rfl, fun c hc => (hb c hc).2.1⟩, fun c hc => ⟨(hb c hc).1, (hb c hc).2.2⟩⟩ fun x hx => (hne x (hC.safe (r7 x hx).1 (r7 x hx).2)).1)
/-! casts -/
theorem Wk.castY {index : Nat} {K : String} (W : Wk p l e R s m args below meth c Z a0 EL own sf T h k n) (w : (Cond.classLink own index K).before a0 Z = true) (F : Ins Z h a K true) (hd : decode c.code pc = .ok (.checkcast index, 3))
    (go : ∀ T', Wk p l e R s m args below meth c Z a0 EL own sf T' h k n → Go p e below s Z EL rc rs Q (T'.setTop (mkF m (pc + 3) Ls (.ref a :: rest)))) : Go p e below s Z EL rc rs Q (T.setTop (mkF m pc Ls (.ref a :: rest))) := by
  obtain ⟨w1, w2, w3, w4, vm0, k0, L, X, r1, r2, r3, r4, r5, r⟩ := W
  obtain ⟨T', X', e', st⟩ := Jvm.RoadKit.castY X w1 r4 r5 w r1 F (g := mkF m pc Ls (.ref a :: rest)) rfl rfl hd
  exact Go.by st (go T' ⟨w1, w2, w3, w4, vm0, k0, L, X', e', r2, r3, r4, r5, r⟩)
theorem Wk.instY {index : Nat} {K : String} (W : Wk p l e R s m args below meth c Z a0 EL own sf T h k n) (w : (Cond.classLink own index K).before a0 Z = true) (F : Ins Z h a K true) (hd : decode c.code pc = .ok (.instanceof index, 3))
    (go : ∀ T', Wk p l e R s m args below meth c Z a0 EL own sf T' h k n → Go p e below s Z EL rc rs Q (T'.setTop (mkF m (pc + 3) Ls (.int 1 :: rest)))) : Go p e below s Z EL rc rs Q (T.setTop (mkF m pc Ls (.ref a :: rest))) := by
  obtain ⟨w1, w2, w3, w4, vm0, k0, L, X, r1, r2, r3, r4, r5, r⟩ := W
  obtain ⟨T', X', e', st⟩ := Jvm.RoadKit.instY X w1 r4 r5 w r1 F (g := mkF m pc Ls (.ref a :: rest)) rfl rfl hd
  exact Go.by st (go T' ⟨w1, w2, w3, w4, vm0, k0, L, X', e', r2, r3, r4, r5, r⟩)
theorem Wk.instNo {index : Nat} {K C : String} (W : Wk p l e R s m args below meth c Z a0 EL own sf T h k n) (w : (Cond.classLink own index K).before a0 Z = true) (E : Exa Z h a C) (F : ∃ c t, Z.vm.findClass C = some c ∧ Z.vm.findClass K = some t ∧ Z.vm.assignable c t = false) (hd : decode c.code pc = .ok (.instanceof index, 3))
    (go : ∀ T', Wk p l e R s m args below meth c Z a0 EL own sf T' h k n → Go p e below s Z EL rc rs Q (T'.setTop (mkF m (pc + 3) Ls (.int 0 :: rest)))) : Go p e below s Z EL rc rs Q (T.setTop (mkF m pc Ls (.ref a :: rest))) := by
  obtain ⟨w1, w2, w3, w4, vm0, k0, L, X, r1, r2, r3, r4, r5, r⟩ := W
  obtain ⟨T', X', e', st⟩ := Jvm.RoadKit.instNo X w1 r4 r5 w r1 E F (g := mkF m pc Ls (.ref a :: rest)) rfl rfl hd
  exact Go.by st (go T' ⟨w1, w2, w3, w4, vm0, k0, L, X', e', r2, r3, r4, r5, r⟩)
theorem Wk.instNull {index : Nat} (W : Wk p l e R s m args below meth c Z a0 EL own sf T h k n) (hd : decode c.code pc = .ok (.instanceof index, 3)) (go : Go p e below s Z EL rc rs Q (T.setTop (mkF m (pc + 3) Ls (.int 0 :: rest)))) : Go p e below s Z EL rc rs Q (T.setTop (mkF m pc Ls (.null :: rest))) := by
  obtain ⟨w1, w2, w3, w4, vm0, k0, L, X, r⟩ := W
  exact Go.by (X.instanceofNull w1 (g := mkF m pc Ls (.null :: rest)) rfl rfl hd) go
theorem Wk.castNull {index : Nat} (W : Wk p l e R s m args below meth c Z a0 EL own sf T h k n) (hd : decode c.code pc = .ok (.checkcast index, 3)) (go : Go p e below s Z EL rc rs Q (T.setTop (mkF m (pc + 3) Ls (.null :: rest)))) : Go p e below s Z EL rc rs Q (T.setTop (mkF m pc Ls (.null :: rest))) := by
  obtain ⟨w1, w2, w3, w4, vm0, k0, L, X, r⟩ := W
  exact Go.by (X.checkcastNull w1 (g := mkF m pc Ls (.null :: rest)) rfl rfl hd) go
/-! arrays -/
theorem Wk.alen {kA : ClassId} {ty : FieldType} {z : Int32} {vs : List Value} {dv : Value} (W : Wk p l e R s m args below meth c Z a0 EL own sf T h k n) (A : Arv Z h a kA ty z vs dv) (hd : decode c.code pc = .ok (.arraylength, 1)) (go : Go p e below s Z EL rc rs Q (T.setTop (mkF m (pc + 1) Ls (.int z :: rest)))) : Go p e below s Z EL rc rs Q (T.setTop (mkF m pc Ls (.ref a :: rest))) := by
  obtain ⟨w1, w2, w3, w4, vm0, k0, L, X, rfl, r2, r3, r4, r⟩ := W
  obtain ⟨cl, A1, -, S, N, -, -⟩ := A
  refine Go.by (X.arraylength w1 A1.1 (State.isArrayOf_alike (T := s.setVm vm0) r4.alike A1.2.1) (g := mkF m pc Ls (.ref a :: rest)) rfl rfl hd) ?_
  rw [len_of S N]; exact go
theorem inA {kA : ClassId} {ty : FieldType} {z j : Int32} {vs : List Value} {dv v : Value} (A : Arv Z h a kA ty z vs dv) (hj : ¬ j < 0 ∧ j < z) (hv : vs.getD j.toNatClampNeg dv = v) : ∃ cl : Cell, RoadKit.Arr Z h a cl ty ∧ ¬ (j < 0 ∨ cl.slots.size ≤ j.toNatClampNeg) ∧ cl.slots[j.toNatClampNeg]? = some v ∧ fits ty v = true := by
  obtain ⟨cl, A1, -, S, N, H, G⟩ := A
  have hi := inb_of S hj
  exact ⟨cl, A1, hi, H.at hi hv, hv ▸ G _ (Nat.lt_of_not_le fun y => hi (Or.inr y))⟩
theorem Wk.cald {kA : ClassId} {z j : Int32} {vs : List Value} {dv v : Value} (W : Wk p l e R s m args below meth c Z a0 EL own sf T h k n) (A : Arv Z h a kA .char z vs dv) (hj : ¬ j < 0 ∧ j < z) (hv : vs.getD j.toNatClampNeg dv = v) (hd : decode c.code pc = .ok (.caload, 1)) (go : Go p e below s Z EL rc rs Q (T.setTop (mkF m (pc + 1) Ls (v :: rest)))) : Go p e below s Z EL rc rs Q (T.setTop (mkF m pc Ls (.int j :: .ref a :: rest))) := by
  obtain ⟨w1, w2, w3, w4, vm0, k0, L, X, rfl, r2, r3, r4, r⟩ := W
  obtain ⟨cl, A1, hi, hat, -⟩ := inA A hj hv
  exact Go.by (X.caload w1 (j := j) (v := v) A1.1 (State.isArrayOf_alike (T := s.setVm vm0) r4.alike A1.2.1) A1.2.2 hi hat (g := mkF m pc Ls (.int j :: .ref a :: rest)) rfl rfl hd) go
theorem Wk.bald {kA : ClassId} {z j : Int32} {vs : List Value} {dv v : Value} (W : Wk p l e R s m args below meth c Z a0 EL own sf T h k n) (A : Arv Z h a kA .byte z vs dv) (hj : ¬ j < 0 ∧ j < z) (hv : vs.getD j.toNatClampNeg dv = v) (hd : decode c.code pc = .ok (.baload, 1)) (go : Go p e below s Z EL rc rs Q (T.setTop (mkF m (pc + 1) Ls (v :: rest)))) : Go p e below s Z EL rc rs Q (T.setTop (mkF m pc Ls (.int j :: .ref a :: rest))) := by
  obtain ⟨w1, w2, w3, w4, vm0, k0, L, X, rfl, r2, r3, r4, r⟩ := W
  obtain ⟨cl, A1, hi, hat, -⟩ := inA A hj hv
  exact Go.by (X.baloadBytes w1 (j := j) (v := v) A1.1 (State.isArrayOf_alike (T := s.setVm vm0) r4.alike A1.2.1) A1.2.2 hi hat (g := mkF m pc Ls (.int j :: .ref a :: rest)) rfl rfl hd) go
theorem Wk.aald {kA : ClassId} {ty : FieldType} {z j : Int32} {vs : List Value} {dv v : Value} (W : Wk p l e R s m args below meth c Z a0 EL own sf T h k n) (A : Arv Z h a kA ty z vs dv) (hty : ty.isReference = true) (hj : ¬ j < 0 ∧ j < z) (hv : vs.getD j.toNatClampNeg dv = v) (hd : decode c.code pc = .ok (.aaload, 1)) (go : Go p e below s Z EL rc rs Q (T.setTop (mkF m (pc + 1) Ls (v :: rest)))) : Go p e below s Z EL rc rs Q (T.setTop (mkF m pc Ls (.int j :: .ref a :: rest))) := by
  obtain ⟨w1, w2, w3, w4, vm0, k0, L, X, rfl, r2, r3, r4, r⟩ := W
  obtain ⟨cl, A1, hi, hat, -⟩ := inA A hj hv
  exact Go.by (X.aaload w1 (j := j) (v := v) A1.1 (State.isArrayOf_alike (T := s.setVm vm0) r4.alike A1.2.1) hty A1.2.2 hi hat (g := mkF m pc Ls (.int j :: .ref a :: rest)) rfl rfl hd) go
theorem Wk.cast_ {kA : ClassId} {z j v v' : Int32} {vs : List Value} {dv : Value} {i : Nat} (W : Wk p l e R s m args below meth c Z a0 EL own sf T h k n) (A : Arv Z h a kA .char z vs dv) (hj : ¬ j < 0 ∧ j < z) (hi : j.toNatClampNeg = i) (hlt : i < vs.length) (hv : nar .char v = v') (ha : Z.heap.size ≤ a) (hs : a ∈ sf) (hd : decode c.code pc = .ok (.castore, 1))
    (go : ∀ T' h', Wk p l e R s m args below meth c Z a0 EL own sf T' h' k n → Wr h h' a j.toNatClampNeg (.int v') → Arv Z h' a kA .char z (vs.set i (.int v')) dv → Go p e below s Z EL rc rs Q (T'.setTop (mkF m (pc + 1) Ls rest))) : Go p e below s Z EL rc rs Q (T.setTop (mkF m pc Ls (.int v :: .int j :: .ref a :: rest))) := by
  subst hv
  obtain ⟨w1, w2, w3, w4, vm0, k0, L, X, r1, r2, r3, r4, r5, r6, r7, r8⟩ := W
  obtain ⟨cl, A1, A2, S, N, H, G⟩ := A
  obtain ⟨T', h', X', e', W', st⟩ := stC X w1 r4 r1 A1 (j := j) (inb_of S hj) (g := mkF m pc Ls (.int v :: .int j :: .ref a :: rest)) rfl rfl hd
  exact Go.by st (go T' h' (Wk.wrote w1 w2 w3 w4 X' e' W' r2 r3 r4 r5 r6 r7 r8 ha hs) W' (Arv.set A1 A2 S N H G (fits_nar_char _) W' i hi hlt))
theorem Wk.bast {kA : ClassId} {z j v v' : Int32} {vs : List Value} {dv : Value} {i : Nat} (W : Wk p l e R s m args below meth c Z a0 EL own sf T h k n) (A : Arv Z h a kA .byte z vs dv) (hj : ¬ j < 0 ∧ j < z) (hi : j.toNatClampNeg = i) (hlt : i < vs.length) (hv : nar .byte v = v') (ha : Z.heap.size ≤ a) (hs : a ∈ sf) (hd : decode c.code pc = .ok (.bastore, 1))
    (go : ∀ T' h', Wk p l e R s m args below meth c Z a0 EL own sf T' h' k n → Wr h h' a j.toNatClampNeg (.int v') → Arv Z h' a kA .byte z (vs.set i (.int v')) dv → Go p e below s Z EL rc rs Q (T'.setTop (mkF m (pc + 1) Ls rest))) : Go p e below s Z EL rc rs Q (T.setTop (mkF m pc Ls (.int v :: .int j :: .ref a :: rest))) := by
  subst hv
  obtain ⟨w1, w2, w3, w4, vm0, k0, L, X, r1, r2, r3, r4, r5, r6, r7, r8⟩ := W
  obtain ⟨cl, A1, A2, S, N, H, G⟩ := A
  obtain ⟨T', h', X', e', W', st⟩ := stB X w1 r4 r1 A1 (j := j) (inb_of S hj) (g := mkF m pc Ls (.int v :: .int j :: .ref a :: rest)) rfl rfl hd
  exact Go.by st (go T' h' (Wk.wrote w1 w2 w3 w4 X' e' W' r2 r3 r4 r5 r6 r7 r8 ha hs) W' (Arv.set A1 A2 S N H G (fits_nar_byte _) W' i hi hlt))
theorem Wk.aast {kA : ClassId} {ty : FieldType} {z j : Int32} {v : Value} {vs : List Value} {dv : Value} {i : Nat} (W : Wk p l e R s m args below meth c Z a0 EL own sf T h k n) (A : Arv Z h a kA ty z vs dv) (hty : ty.isReference = true) (hj : ¬ j < 0 ∧ j < z) (hi : j.toNatClampNeg = i) (hlt : i < vs.length) (F : Sto Z h a v) (hv : fits ty v = true) (ha : Z.heap.size ≤ a) (hs : a ∈ sf) (hd : decode c.code pc = .ok (.aastore, 1))
    (go : ∀ T' h', Wk p l e R s m args below meth c Z a0 EL own sf T' h' k n → Wr h h' a j.toNatClampNeg v → Arv Z h' a kA ty z (vs.set i v) dv → Go p e below s Z EL rc rs Q (T'.setTop (mkF m (pc + 1) Ls rest))) : Go p e below s Z EL rc rs Q (T.setTop (mkF m pc Ls (v :: .int j :: .ref a :: rest))) := by
  obtain ⟨w1, w2, w3, w4, vm0, k0, L, X, r1, r2, r3, r4, r5, r6, r7, r8⟩ := W
  obtain ⟨cl, A1, A2, S, N, H, G⟩ := A
  obtain ⟨T', h', X', e', W', st⟩ := stR X w1 r4 r1 A1 (j := j) (inb_of S hj) hty F (g := mkF m pc Ls (v :: .int j :: .ref a :: rest)) rfl rfl hd
  exact Go.by st (go T' h' (Wk.wrote w1 w2 w3 w4 X' e' W' r2 r3 r4 r5 r6 r7 r8 ha hs) W' (Arv.set A1 A2 S N H G hv W' i hi hlt))
/-- a String at the start, by the sheet's words -/
theorem str_of {t : Term} {vs : List Value} (hf : Fit Z) (hx : (Cond.exactly t "java/lang/String").value args Z none Z [] = some true) (hcd : (Cond.eq (.field t "java/lang/String" "coder" "B") (.int 0)).value args Z none Z [] = some true) (hA : (Cond.arrayOf (.field t "java/lang/String" "value" "[B") .byte).value args Z none Z [] = some true) (hl : (Cond.eq (.length (.field t "java/lang/String" "value" "[B")) (.int (Int32.ofNat cs.length))).value args Z none Z [] = some true) (hn : cs.length < 2 ^ 31) (H : HasE args Z (.field t "java/lang/String" "value" "[B") 0 (cs.map fun c => Value.int (StrChars.lo8 c))) (hb : ∀ c ∈ cs, ¬ c < 0 ∧ ¬ (255 : Int32) < c ∧ ¬ (65535 : Int32) < c) : ∃ a, t.eval args Z none [] Z = some (.ref a) ∧ Str Z Z.heap a cs := by
  obtain ⟨a, ea⟩ := exa_v hx
  obtain ⟨b, eb⟩ := arr_v hA
  have ec := Cond.eq_int (Cond.before_iff.mpr hcd) rfl
  have el := Cond.eq_int (Cond.before_iff.mpr hl) rfl
  obtain ⟨kb, K⟩ := arv_of (dv := .int 0) hf eb hA el (by
    intro q
    rw [Int32.lt_iff_toInt_lt, Int32.toInt_ofNat_small hn] at q
    have e0 : (0 : Int32).toInt = 0 := rfl
    omega) (by rw [clampN hn, List.length_map]) (by rw [List.length_map]; exact hn) H
  exact ⟨a, ea, b, kb, 0, _, _, Exa.start ea hx, Fld.start (by rw [← fld_at ea]; exact eb), Fld.start (by rw [← fld_at ea]; exact ec), K, Or.inl ⟨rfl, rfl, rfl, fun c hc => (hb c hc).2.1⟩, fun c hc => ⟨(hb c hc).1, (hb c hc).2.2⟩⟩
end KitStr
theorem nar_i2c (x : Int32) : nar .char x.toUInt32.toUInt16.toUInt32.toInt32 = x.toUInt32.toUInt16.toUInt32.toInt32 := by
  have h1 := c_i2c x
  have h2 := c_i2c x.toUInt32.toUInt16.toUInt32.toInt32
  apply Int32.toInt_inj.mp
  show (x.toUInt32.toUInt16.toUInt32.toInt32.toUInt32.toUInt16.toUInt32.toInt32).toInt = _
  omega
theorem i2c_id {x : Int32} (h : ¬ x < 0 ∧ ¬ (65535 : Int32) < x) : x.toUInt32.toUInt16.toUInt32.toInt32 = x := by
  have h1 := c_i2c x
  apply Int32.toInt_inj.mp
  rw [Int32.lt_iff_toInt_lt, Int32.lt_iff_toInt_lt] at h
  have e : (65535 : Int32).toInt = 65535 := rfl
  have e0 : (0 : Int32).toInt = 0 := rfl
  omega
theorem nar_id {x : Int32} (h : ¬ x < 0 ∧ ¬ (65535 : Int32) < x) : nar .char x = x := i2c_id h
theorem up16 {x : Int32} (h : ¬ x < 0 ∧ ¬ (255 : Int32) < x) : ¬ x < 0 ∧ ¬ (65535 : Int32) < x := ⟨h.1, fun q => h.2 (by rw [Int32.lt_iff_toInt_lt] at q ⊢; have e1 : (65535 : Int32).toInt = 65535 := rfl; have e2 : (255 : Int32).toInt = 255 := rfl; omega)⟩
theorem i2c_rng (x : Int32) : ¬ x.toUInt32.toUInt16.toUInt32.toInt32 < 0 ∧ ¬ (65535 : Int32) < x.toUInt32.toUInt16.toUInt32.toInt32 := by
  have h1 := c_i2c x
  rw [Int32.lt_iff_toInt_lt, Int32.lt_iff_toInt_lt]
  have e : (65535 : Int32).toInt = 65535 := rfl
  have e0 : (0 : Int32).toInt = 0 := rfl
  omega
theorem and255 (x : Int32) : ¬ (x &&& (255 : Int32)) < 0 ∧ ¬ (255 : Int32) < (x &&& (255 : Int32)) := by
  have h := c_and x 255 (by decide)
  have e : (255 : Int32).toInt = 255 := rfl
  rw [Int32.lt_iff_toInt_lt, Int32.lt_iff_toInt_lt, e]
  have e0 : (0 : Int32).toInt = 0 := rfl
  omega
theorem k_mask (x : Int32) : ¬ (x &&& (255 : Int32)).toUInt32.toUInt16.toUInt32.toInt32 < 0 ∧ ¬ (255 : Int32) < (x &&& (255 : Int32)).toUInt32.toUInt16.toUInt32.toInt32 := by
  rw [i2c_mask]; exact and255 x
theorem k_nar (x : Int32) : nar .char (x &&& (255 : Int32)).toUInt32.toUInt16.toUInt32.toInt32 = (x &&& (255 : Int32)).toUInt32.toUInt16.toUInt32.toInt32 := nar_i2c _
theorem and3 (x : Int32) : x &&& (3 : Int32) = 0 ∨ x &&& (3 : Int32) = 1 ∨ x &&& (3 : Int32) = 2 ∨ x &&& (3 : Int32) = 3 := by
  have h := c_and x 3 (by decide)
  have e : (3 : Int32).toInt = 3 := rfl
  rcases (by omega : (x &&& (3 : Int32)).toInt = 0 ∨ (x &&& (3 : Int32)).toInt = 1 ∨ (x &&& (3 : Int32)).toInt = 2 ∨ (x &&& (3 : Int32)).toInt = 3) with q | q | q | q
  · exact Or.inl (Int32.toInt_inj.mp q)
  · exact Or.inr (Or.inl (Int32.toInt_inj.mp q))
  · exact Or.inr (Or.inr (Or.inl (Int32.toInt_inj.mp q)))
  · exact Or.inr (Or.inr (Or.inr (Int32.toInt_inj.mp q)))
theorem maskL255 (x : Int64) : ¬ (x &&& (255 : Int64)).toInt32.toUInt32.toUInt16.toUInt32.toInt32 < 0 ∧ ¬ (255 : Int32) < (x &&& (255 : Int64)).toInt32.toUInt32.toUInt16.toUInt32.toInt32 := by
  have h := c_maskL x 255 8 (by decide) (by decide)
  have h2 := c_l2i (x &&& (255 : Int64))
  have h3 := c_i2c (x &&& (255 : Int64)).toInt32
  have h4 := rng32 (x &&& (255 : Int64)).toInt32
  rw [Int32.lt_iff_toInt_lt, Int32.lt_iff_toInt_lt]
  have e : (255 : Int32).toInt = 255 := rfl
  have e0 : (0 : Int32).toInt = 0 := rfl
  have e8 : ((2 ^ 8 : Nat) : Int) = 256 := rfl
  omega
theorem k_sa {Z : State} {a0 : Array Value} (hw : ∀ d ∈ tables_1, d.before a0 Z = true) : ∀ a ∈ Bundle.stringAtoms, a.before a0 Z = true := fun d hd => hw d ((by decide +kernel : ∀ d ∈ Bundle.stringAtoms, d ∈ tables_1) d hd)
theorem k_words {Z : State} {a0 : Array Value} (hw : ∀ d ∈ tables_1, d.before a0 Z = true) : ∀ d ∈ StrChars.Road.words, d.before a0 Z = true := fun d hd => hw d ((by decide +kernel : ∀ d ∈ StrChars.Road.words, d ∈ tables_1) d hd)
theorem sta_exa {args : Array Value} {Z : State} {C n d K : String} (hx : (Cond.exactly (.static C n d) K).value args Z none Z [] = some true) (hi : (Cond.initializedFor C n d).before args Z = true ∨ ((Cond.initialized C).before args Z = true ∧ (Cond.laysStatic C n d).before args Z = true)) : ∃ a, Sta Z Z.heap C n d (.ref a) ∧ Exa Z Z.heap a K ∧ (Term.static C n d).eval args Z none [] Z = some (.ref a) := by
  obtain ⟨a, c', cell, k, e1, -⟩ := Cond.exactly_spec (Cond.before_iff.mpr hx)
  exact ⟨a, Sta.start e1 hi, Exa.start e1 hx, e1⟩
theorem lo8_lo8 (z : Int32) : z.toInt8.toInt32.toInt8.toInt32 = z.toInt8.toInt32 := by simp
theorem wd0 {Z : State} {a0 : Array Value} (hw : ∀ d ∈ tables_1, d.before a0 Z = true) : (Jvm.Cond.arrayClass Jvm.ClassFile.FieldType.char).before a0 Z = true := hw _ (List.mem_of_getElem? (i := 0) rfl)
theorem wd1 {Z : State} {a0 : Array Value} (hw : ∀ d ∈ tables_1, d.before a0 Z = true) : (Jvm.Cond.fieldLink "com/example/secondkey/secondkey/config/UserOwesSecondFactorPinLaw" (18 : Nat) "com/example/secondkey/secondkey/config/Config$SecondFactor" "WHEN_CLIENT_REQUIRES" "Lcom/example/secondkey/secondkey/config/Config$SecondFactor;").before a0 Z = true := hw _ (List.mem_of_getElem? (i := 1) rfl)
theorem wd2 {Z : State} {a0 : Array Value} (hw : ∀ d ∈ tables_1, d.before a0 Z = true) : (Jvm.Cond.initialized "com/example/secondkey/secondkey/config/Config$SecondFactor").before a0 Z = true := hw _ (List.mem_of_getElem? (i := 2) rfl)
theorem wd3 {Z : State} {a0 : Array Value} (hw : ∀ d ∈ tables_1, d.before a0 Z = true) : (Jvm.Cond.laysStatic "com/example/secondkey/secondkey/config/Config$SecondFactor" "WHEN_CLIENT_REQUIRES" "Lcom/example/secondkey/secondkey/config/Config$SecondFactor;").before a0 Z = true := hw _ (List.mem_of_getElem? (i := 3) rfl)
theorem wd4 {Z : State} {a0 : Array Value} (hw : ∀ d ∈ tables_1, d.before a0 Z = true) : (Jvm.Cond.classLink "com/example/secondkey/secondkey/config/UserOwesSecondFactorPinLaw" (21 : Nat) "java/util/ArrayList").before a0 Z = true := hw _ (List.mem_of_getElem? (i := 4) rfl)
theorem wd5 {Z : State} {a0 : Array Value} (hw : ∀ d ∈ tables_1, d.before a0 Z = true) : (Jvm.Cond.instantiable "java/util/ArrayList" (3 : Nat)).before a0 Z = true := hw _ (List.mem_of_getElem? (i := 5) rfl)
theorem wd6 {Z : State} {a0 : Array Value} (hw : ∀ d ∈ tables_1, d.before a0 Z = true) : (Jvm.Cond.initialized "java/util/ArrayList").before a0 Z = true := hw _ (List.mem_of_getElem? (i := 6) rfl)
theorem wd7 {Z : State} {a0 : Array Value} (hw : ∀ d ∈ tables_1, d.before a0 Z = true) : (Jvm.Cond.methodLink "com/example/secondkey/secondkey/config/UserOwesSecondFactorPinLaw" (23 : Nat) ({ cls := "java/util/ArrayList", name := "<init>", desc := "()V" } : Jvm.MethodName)).before a0 Z = true := hw _ (List.mem_of_getElem? (i := 7) rfl)
theorem wd8 {Z : State} {a0 : Array Value} (hw : ∀ d ∈ tables_1, d.before a0 Z = true) : (Jvm.Cond.instanceMethod ({ cls := "java/util/ArrayList", name := "<init>", desc := "()V" } : Jvm.MethodName)).before a0 Z = true := hw _ (List.mem_of_getElem? (i := 8) rfl)
theorem wd9 {Z : State} {a0 : Array Value} (hw : ∀ d ∈ tables_1, d.before a0 Z = true) : (Jvm.Cond.code ({ cls := "java/util/ArrayList", name := "<init>", desc := "()V" } : Jvm.MethodName) jdk_38_method_2_code (1 : Nat) (Option.none : Option Jvm.ClassFile.FieldType)).before a0 Z = true := hw _ (List.mem_of_getElem? (i := 9) rfl)
theorem wd10 {Z : State} {a0 : Array Value} (hw : ∀ d ∈ tables_1, d.before a0 Z = true) : (Jvm.Cond.methodLink "java/util/ArrayList" (1 : Nat) ({ cls := "java/util/AbstractList", name := "<init>", desc := "()V" } : Jvm.MethodName)).before a0 Z = true := hw _ (List.mem_of_getElem? (i := 10) rfl)
theorem wd11 {Z : State} {a0 : Array Value} (hw : ∀ d ∈ tables_1, d.before a0 Z = true) : (Jvm.Cond.instanceMethod ({ cls := "java/util/AbstractList", name := "<init>", desc := "()V" } : Jvm.MethodName)).before a0 Z = true := hw _ (List.mem_of_getElem? (i := 11) rfl)
theorem wd14 {Z : State} {a0 : Array Value} (hw : ∀ d ∈ tables_1, d.before a0 Z = true) : (Jvm.Cond.initialized "java/util/AbstractList").before a0 Z = true := hw _ (List.mem_of_getElem? (i := 14) rfl)
theorem wd15 {Z : State} {a0 : Array Value} (hw : ∀ d ∈ tables_1, d.before a0 Z = true) : (Jvm.Cond.code ({ cls := "java/util/AbstractList", name := "<init>", desc := "()V" } : Jvm.MethodName) jdk_39_method_1_code (1 : Nat) (Option.none : Option Jvm.ClassFile.FieldType)).before a0 Z = true := hw _ (List.mem_of_getElem? (i := 15) rfl)
theorem wd16 {Z : State} {a0 : Array Value} (hw : ∀ d ∈ tables_1, d.before a0 Z = true) : (Jvm.Cond.methodLink "java/util/AbstractList" (1 : Nat) ({ cls := "java/util/AbstractCollection", name := "<init>", desc := "()V" } : Jvm.MethodName)).before a0 Z = true := hw _ (List.mem_of_getElem? (i := 16) rfl)
theorem wd17 {Z : State} {a0 : Array Value} (hw : ∀ d ∈ tables_1, d.before a0 Z = true) : (Jvm.Cond.instanceMethod ({ cls := "java/util/AbstractCollection", name := "<init>", desc := "()V" } : Jvm.MethodName)).before a0 Z = true := hw _ (List.mem_of_getElem? (i := 17) rfl)
theorem wd20 {Z : State} {a0 : Array Value} (hw : ∀ d ∈ tables_1, d.before a0 Z = true) : (Jvm.Cond.initialized "java/util/AbstractCollection").before a0 Z = true := hw _ (List.mem_of_getElem? (i := 20) rfl)
theorem wd21 {Z : State} {a0 : Array Value} (hw : ∀ d ∈ tables_1, d.before a0 Z = true) : (Jvm.Cond.code ({ cls := "java/util/AbstractCollection", name := "<init>", desc := "()V" } : Jvm.MethodName) jdk_22_method_1_code (1 : Nat) (Option.none : Option Jvm.ClassFile.FieldType)).before a0 Z = true := hw _ (List.mem_of_getElem? (i := 21) rfl)
theorem wd22 {Z : State} {a0 : Array Value} (hw : ∀ d ∈ tables_1, d.before a0 Z = true) : (Jvm.Cond.methodLink "java/util/AbstractCollection" (1 : Nat) ({ cls := "java/lang/Object", name := "<init>", desc := "()V" } : Jvm.MethodName)).before a0 Z = true := hw _ (List.mem_of_getElem? (i := 22) rfl)
theorem wd23 {Z : State} {a0 : Array Value} (hw : ∀ d ∈ tables_1, d.before a0 Z = true) : (Jvm.Cond.instanceMethod ({ cls := "java/lang/Object", name := "<init>", desc := "()V" } : Jvm.MethodName)).before a0 Z = true := hw _ (List.mem_of_getElem? (i := 23) rfl)
theorem wd24 {Z : State} {a0 : Array Value} (hw : ∀ d ∈ tables_1, d.before a0 Z = true) : (Jvm.Cond.code ({ cls := "java/lang/Object", name := "<init>", desc := "()V" } : Jvm.MethodName) object_method_1_code (1 : Nat) (Option.none : Option Jvm.ClassFile.FieldType)).before a0 Z = true := hw _ (List.mem_of_getElem? (i := 24) rfl)
theorem wd25 {Z : State} {a0 : Array Value} (hw : ∀ d ∈ tables_1, d.before a0 Z = true) : (Jvm.Cond.fieldLink "java/util/AbstractList" (7 : Nat) "java/util/AbstractList" "modCount" "I").before a0 Z = true := hw _ (List.mem_of_getElem? (i := 25) rfl)
theorem wd26 {Z : State} {a0 : Array Value} (hw : ∀ d ∈ tables_1, d.before a0 Z = true) : (Jvm.Cond.lays "java/util/ArrayList" "java/util/AbstractList" "modCount" "I").before a0 Z = true := hw _ (List.mem_of_getElem? (i := 26) rfl)
theorem wd27 {Z : State} {a0 : Array Value} (hw : ∀ d ∈ tables_1, d.before a0 Z = true) : (Jvm.Cond.fieldLink "java/util/ArrayList" (39 : Nat) "java/util/ArrayList" "DEFAULTCAPACITY_EMPTY_ELEMENTDATA" "[Ljava/lang/Object;").before a0 Z = true := hw _ (List.mem_of_getElem? (i := 27) rfl)
theorem wd28 {Z : State} {a0 : Array Value} (hw : ∀ d ∈ tables_1, d.before a0 Z = true) : (Jvm.Cond.fieldLink "java/util/ArrayList" (9 : Nat) "java/util/ArrayList" "elementData" "[Ljava/lang/Object;").before a0 Z = true := hw _ (List.mem_of_getElem? (i := 28) rfl)
theorem wd29 {Z : State} {a0 : Array Value} (hw : ∀ d ∈ tables_1, d.before a0 Z = true) : (Jvm.Cond.lays "java/util/ArrayList" "java/util/ArrayList" "elementData" "[Ljava/lang/Object;").before a0 Z = true := hw _ (List.mem_of_getElem? (i := 29) rfl)
theorem wd30 {Z : State} {a0 : Array Value} (hw : ∀ d ∈ tables_1, d.before a0 Z = true) : (Jvm.Cond.methodLink "com/example/secondkey/secondkey/config/UserOwesSecondFactorPinLaw" (24 : Nat) ({ cls := "java/lang/String", name := "valueOf", desc := "(C)Ljava/lang/String;" } : Jvm.MethodName)).before a0 Z = true := hw _ (List.mem_of_getElem? (i := 30) rfl)
theorem wd31 {Z : State} {a0 : Array Value} (hw : ∀ d ∈ tables_1, d.before a0 Z = true) : (Jvm.Cond.static ({ cls := "java/lang/String", name := "valueOf", desc := "(C)Ljava/lang/String;" } : Jvm.MethodName)).before a0 Z = true := hw _ (List.mem_of_getElem? (i := 31) rfl)
theorem wd32 {Z : State} {a0 : Array Value} (hw : ∀ d ∈ tables_1, d.before a0 Z = true) : (Jvm.Cond.initialized "java/lang/String").before a0 Z = true := hw _ (List.mem_of_getElem? (i := 32) rfl)
theorem wd33 {Z : State} {a0 : Array Value} (hw : ∀ d ∈ tables_1, d.before a0 Z = true) : (Jvm.Cond.code ({ cls := "java/lang/String", name := "valueOf", desc := "(C)Ljava/lang/String;" } : Jvm.MethodName) jdk_42_method_139_code (1 : Nat) (Option.some (Jvm.ClassFile.FieldType.object "java/lang/String"))).before a0 Z = true := hw _ (List.mem_of_getElem? (i := 33) rfl)
theorem wd34 {Z : State} {a0 : Array Value} (hw : ∀ d ∈ tables_1, d.before a0 Z = true) : (Jvm.Cond.fieldLink "java/lang/String" (38 : Nat) "java/lang/String" "COMPACT_STRINGS" "Z").before a0 Z = true := hw _ (List.mem_of_getElem? (i := 34) rfl)
theorem wd35 {Z : State} {a0 : Array Value} (hw : ∀ d ∈ tables_1, d.before a0 Z = true) : (Jvm.Cond.methodLink "java/lang/String" (1015 : Nat) ({ cls := "java/lang/StringLatin1", name := "canEncode", desc := "(C)Z" } : Jvm.MethodName)).before a0 Z = true := hw _ (List.mem_of_getElem? (i := 35) rfl)
theorem wd36 {Z : State} {a0 : Array Value} (hw : ∀ d ∈ tables_1, d.before a0 Z = true) : (Jvm.Cond.static ({ cls := "java/lang/StringLatin1", name := "canEncode", desc := "(C)Z" } : Jvm.MethodName)).before a0 Z = true := hw _ (List.mem_of_getElem? (i := 36) rfl)
theorem wd37 {Z : State} {a0 : Array Value} (hw : ∀ d ∈ tables_1, d.before a0 Z = true) : (Jvm.Cond.initialized "java/lang/StringLatin1").before a0 Z = true := hw _ (List.mem_of_getElem? (i := 37) rfl)
theorem wd38 {Z : State} {a0 : Array Value} (hw : ∀ d ∈ tables_1, d.before a0 Z = true) : (Jvm.Cond.code ({ cls := "java/lang/StringLatin1", name := "canEncode", desc := "(C)Z" } : Jvm.MethodName) jdk_43_method_3_code (1 : Nat) (Option.some Jvm.ClassFile.FieldType.boolean)).before a0 Z = true := hw _ (List.mem_of_getElem? (i := 38) rfl)
theorem wd39 {Z : State} {a0 : Array Value} (hw : ∀ d ∈ tables_1, d.before a0 Z = true) : (Jvm.Cond.classLink "java/lang/String" (10 : Nat) "java/lang/String").before a0 Z = true := hw _ (List.mem_of_getElem? (i := 39) rfl)
theorem wd40 {Z : State} {a0 : Array Value} (hw : ∀ d ∈ tables_1, d.before a0 Z = true) : (Jvm.Cond.instantiable "java/lang/String" (4 : Nat)).before a0 Z = true := hw _ (List.mem_of_getElem? (i := 40) rfl)
theorem wd41 {Z : State} {a0 : Array Value} (hw : ∀ d ∈ tables_1, d.before a0 Z = true) : (Jvm.Cond.methodLink "java/lang/String" (1018 : Nat) ({ cls := "java/lang/StringLatin1", name := "toBytes", desc := "(C)[B" } : Jvm.MethodName)).before a0 Z = true := hw _ (List.mem_of_getElem? (i := 41) rfl)
theorem wd42 {Z : State} {a0 : Array Value} (hw : ∀ d ∈ tables_1, d.before a0 Z = true) : (Jvm.Cond.static ({ cls := "java/lang/StringLatin1", name := "toBytes", desc := "(C)[B" } : Jvm.MethodName)).before a0 Z = true := hw _ (List.mem_of_getElem? (i := 42) rfl)
theorem wd43 {Z : State} {a0 : Array Value} (hw : ∀ d ∈ tables_1, d.before a0 Z = true) : (Jvm.Cond.code ({ cls := "java/lang/StringLatin1", name := "toBytes", desc := "(C)[B" } : Jvm.MethodName) jdk_43_method_46_code (1 : Nat) (Option.some (Jvm.ClassFile.FieldType.array Jvm.ClassFile.FieldType.byte))).before a0 Z = true := hw _ (List.mem_of_getElem? (i := 43) rfl)
theorem wd44 {Z : State} {a0 : Array Value} (hw : ∀ d ∈ tables_1, d.before a0 Z = true) : (Jvm.Cond.arrayClass Jvm.ClassFile.FieldType.byte).before a0 Z = true := hw _ (List.mem_of_getElem? (i := 44) rfl)
theorem wd45 {Z : State} {a0 : Array Value} (hw : ∀ d ∈ tables_1, d.before a0 Z = true) : (Jvm.Cond.methodLink "java/lang/String" (209 : Nat) ({ cls := "java/lang/String", name := "<init>", desc := "([BB)V" } : Jvm.MethodName)).before a0 Z = true := hw _ (List.mem_of_getElem? (i := 45) rfl)
theorem wd46 {Z : State} {a0 : Array Value} (hw : ∀ d ∈ tables_1, d.before a0 Z = true) : (Jvm.Cond.instanceMethod ({ cls := "java/lang/String", name := "<init>", desc := "([BB)V" } : Jvm.MethodName)).before a0 Z = true := hw _ (List.mem_of_getElem? (i := 46) rfl)
theorem wd48 {Z : State} {a0 : Array Value} (hw : ∀ d ∈ tables_1, d.before a0 Z = true) : (Jvm.Cond.code ({ cls := "java/lang/String", name := "<init>", desc := "([BB)V" } : Jvm.MethodName) jdk_42_method_151_code (3 : Nat) (Option.none : Option Jvm.ClassFile.FieldType)).before a0 Z = true := hw _ (List.mem_of_getElem? (i := 48) rfl)
theorem wd49 {Z : State} {a0 : Array Value} (hw : ∀ d ∈ tables_1, d.before a0 Z = true) : (Jvm.Cond.methodLink "java/lang/String" (1 : Nat) ({ cls := "java/lang/Object", name := "<init>", desc := "()V" } : Jvm.MethodName)).before a0 Z = true := hw _ (List.mem_of_getElem? (i := 49) rfl)
theorem wd50 {Z : State} {a0 : Array Value} (hw : ∀ d ∈ tables_1, d.before a0 Z = true) : (Jvm.Cond.fieldLink "java/lang/String" (9 : Nat) "java/lang/String" "value" "[B").before a0 Z = true := hw _ (List.mem_of_getElem? (i := 50) rfl)
theorem wd51 {Z : State} {a0 : Array Value} (hw : ∀ d ∈ tables_1, d.before a0 Z = true) : (Jvm.Cond.laysFinal "java/lang/String" "java/lang/String" "value" "[B").before a0 Z = true := hw _ (List.mem_of_getElem? (i := 51) rfl)
theorem wd52 {Z : State} {a0 : Array Value} (hw : ∀ d ∈ tables_1, d.before a0 Z = true) : (Jvm.Cond.fieldLink "java/lang/String" (15 : Nat) "java/lang/String" "coder" "B").before a0 Z = true := hw _ (List.mem_of_getElem? (i := 52) rfl)
theorem wd53 {Z : State} {a0 : Array Value} (hw : ∀ d ∈ tables_1, d.before a0 Z = true) : (Jvm.Cond.laysFinal "java/lang/String" "java/lang/String" "coder" "B").before a0 Z = true := hw _ (List.mem_of_getElem? (i := 53) rfl)
theorem wd54 {Z : State} {a0 : Array Value} (hw : ∀ d ∈ tables_1, d.before a0 Z = true) : (Jvm.Cond.methodLink "com/example/secondkey/secondkey/config/UserOwesSecondFactorPinLaw" (28 : Nat) ({ cls := "java/util/ArrayList", name := "add", desc := "(Ljava/lang/Object;)Z" } : Jvm.MethodName)).before a0 Z = true := hw _ (List.mem_of_getElem? (i := 54) rfl)
theorem wd55 {Z : State} {a0 : Array Value} (hw : ∀ d ∈ tables_1, d.before a0 Z = true) : (Jvm.Cond.declares ({ cls := "java/util/ArrayList", name := "add", desc := "(Ljava/lang/Object;)Z" } : Jvm.MethodName)).before a0 Z = true := hw _ (List.mem_of_getElem? (i := 55) rfl)
theorem wd56 {Z : State} {a0 : Array Value} (hw : ∀ d ∈ tables_1, d.before a0 Z = true) : (Jvm.Cond.instanceMethod ({ cls := "java/util/ArrayList", name := "add", desc := "(Ljava/lang/Object;)Z" } : Jvm.MethodName)).before a0 Z = true := hw _ (List.mem_of_getElem? (i := 56) rfl)
theorem wd57 {Z : State} {a0 : Array Value} (hw : ∀ d ∈ tables_1, d.before a0 Z = true) : (Jvm.Cond.selects "java/util/ArrayList" ({ cls := "java/util/ArrayList", name := "add", desc := "(Ljava/lang/Object;)Z" } : Jvm.MethodName) ({ cls := "java/util/ArrayList", name := "add", desc := "(Ljava/lang/Object;)Z" } : Jvm.MethodName)).before a0 Z = true := hw _ (List.mem_of_getElem? (i := 57) rfl)
theorem wd58 {Z : State} {a0 : Array Value} (hw : ∀ d ∈ tables_1, d.before a0 Z = true) : (Jvm.Cond.code ({ cls := "java/util/ArrayList", name := "add", desc := "(Ljava/lang/Object;)Z" } : Jvm.MethodName) jdk_38_method_25_code (2 : Nat) (Option.some Jvm.ClassFile.FieldType.boolean)).before a0 Z = true := hw _ (List.mem_of_getElem? (i := 58) rfl)
theorem wd59 {Z : State} {a0 : Array Value} (hw : ∀ d ∈ tables_1, d.before a0 Z = true) : (Jvm.Cond.fieldLink "java/util/ArrayList" (63 : Nat) "java/util/ArrayList" "modCount" "I").before a0 Z = true := hw _ (List.mem_of_getElem? (i := 59) rfl)
theorem wd60 {Z : State} {a0 : Array Value} (hw : ∀ d ∈ tables_1, d.before a0 Z = true) : (Jvm.Cond.sameField "java/util/ArrayList" "java/util/AbstractList" "modCount" "I").before a0 Z = true := hw _ (List.mem_of_getElem? (i := 60) rfl)
theorem wd61 {Z : State} {a0 : Array Value} (hw : ∀ d ∈ tables_1, d.before a0 Z = true) : (Jvm.Cond.fieldLink "java/util/ArrayList" (48 : Nat) "java/util/ArrayList" "size" "I").before a0 Z = true := hw _ (List.mem_of_getElem? (i := 61) rfl)
theorem wd62 {Z : State} {a0 : Array Value} (hw : ∀ d ∈ tables_1, d.before a0 Z = true) : (Jvm.Cond.lays "java/util/ArrayList" "java/util/ArrayList" "size" "I").before a0 Z = true := hw _ (List.mem_of_getElem? (i := 62) rfl)
theorem wd63 {Z : State} {a0 : Array Value} (hw : ∀ d ∈ tables_1, d.before a0 Z = true) : (Jvm.Cond.methodLink "java/util/ArrayList" (131 : Nat) ({ cls := "java/util/ArrayList", name := "add", desc := "(Ljava/lang/Object;[Ljava/lang/Object;I)V" } : Jvm.MethodName)).before a0 Z = true := hw _ (List.mem_of_getElem? (i := 63) rfl)
theorem wd64 {Z : State} {a0 : Array Value} (hw : ∀ d ∈ tables_1, d.before a0 Z = true) : (Jvm.Cond.instanceMethod ({ cls := "java/util/ArrayList", name := "add", desc := "(Ljava/lang/Object;[Ljava/lang/Object;I)V" } : Jvm.MethodName)).before a0 Z = true := hw _ (List.mem_of_getElem? (i := 64) rfl)
theorem wd65 {Z : State} {a0 : Array Value} (hw : ∀ d ∈ tables_1, d.before a0 Z = true) : (Jvm.Cond.privateMethod ({ cls := "java/util/ArrayList", name := "add", desc := "(Ljava/lang/Object;[Ljava/lang/Object;I)V" } : Jvm.MethodName)).before a0 Z = true := hw _ (List.mem_of_getElem? (i := 65) rfl)
theorem wd66 {Z : State} {a0 : Array Value} (hw : ∀ d ∈ tables_1, d.before a0 Z = true) : (Jvm.Cond.selects "java/util/ArrayList" ({ cls := "java/util/ArrayList", name := "add", desc := "(Ljava/lang/Object;[Ljava/lang/Object;I)V" } : Jvm.MethodName) ({ cls := "java/util/ArrayList", name := "add", desc := "(Ljava/lang/Object;[Ljava/lang/Object;I)V" } : Jvm.MethodName)).before a0 Z = true := hw _ (List.mem_of_getElem? (i := 66) rfl)
theorem wd67 {Z : State} {a0 : Array Value} (hw : ∀ d ∈ tables_1, d.before a0 Z = true) : (Jvm.Cond.code ({ cls := "java/util/ArrayList", name := "add", desc := "(Ljava/lang/Object;[Ljava/lang/Object;I)V" } : Jvm.MethodName) jdk_38_method_24_code (4 : Nat) (Option.none : Option Jvm.ClassFile.FieldType)).before a0 Z = true := hw _ (List.mem_of_getElem? (i := 67) rfl)
theorem wd68 {Z : State} {a0 : Array Value} (hw : ∀ d ∈ tables_1, d.before a0 Z = true) : (Jvm.Cond.methodLink "java/util/ArrayList" (129 : Nat) ({ cls := "java/util/ArrayList", name := "grow", desc := "()[Ljava/lang/Object;" } : Jvm.MethodName)).before a0 Z = true := hw _ (List.mem_of_getElem? (i := 68) rfl)
theorem wd69 {Z : State} {a0 : Array Value} (hw : ∀ d ∈ tables_1, d.before a0 Z = true) : (Jvm.Cond.instanceMethod ({ cls := "java/util/ArrayList", name := "grow", desc := "()[Ljava/lang/Object;" } : Jvm.MethodName)).before a0 Z = true := hw _ (List.mem_of_getElem? (i := 69) rfl)
theorem wd70 {Z : State} {a0 : Array Value} (hw : ∀ d ∈ tables_1, d.before a0 Z = true) : (Jvm.Cond.privateMethod ({ cls := "java/util/ArrayList", name := "grow", desc := "()[Ljava/lang/Object;" } : Jvm.MethodName)).before a0 Z = true := hw _ (List.mem_of_getElem? (i := 70) rfl)
theorem wd71 {Z : State} {a0 : Array Value} (hw : ∀ d ∈ tables_1, d.before a0 Z = true) : (Jvm.Cond.selects "java/util/ArrayList" ({ cls := "java/util/ArrayList", name := "grow", desc := "()[Ljava/lang/Object;" } : Jvm.MethodName) ({ cls := "java/util/ArrayList", name := "grow", desc := "()[Ljava/lang/Object;" } : Jvm.MethodName)).before a0 Z = true := hw _ (List.mem_of_getElem? (i := 71) rfl)
theorem wd72 {Z : State} {a0 : Array Value} (hw : ∀ d ∈ tables_1, d.before a0 Z = true) : (Jvm.Cond.code ({ cls := "java/util/ArrayList", name := "grow", desc := "()[Ljava/lang/Object;" } : Jvm.MethodName) jdk_38_method_7_code (1 : Nat) (Option.some (Jvm.ClassFile.FieldType.array (Jvm.ClassFile.FieldType.object "java/lang/Object")))).before a0 Z = true := hw _ (List.mem_of_getElem? (i := 72) rfl)
theorem wd73 {Z : State} {a0 : Array Value} (hw : ∀ d ∈ tables_1, d.before a0 Z = true) : (Jvm.Cond.methodLink "java/util/ArrayList" (69 : Nat) ({ cls := "java/util/ArrayList", name := "grow", desc := "(I)[Ljava/lang/Object;" } : Jvm.MethodName)).before a0 Z = true := hw _ (List.mem_of_getElem? (i := 73) rfl)
theorem wd74 {Z : State} {a0 : Array Value} (hw : ∀ d ∈ tables_1, d.before a0 Z = true) : (Jvm.Cond.instanceMethod ({ cls := "java/util/ArrayList", name := "grow", desc := "(I)[Ljava/lang/Object;" } : Jvm.MethodName)).before a0 Z = true := hw _ (List.mem_of_getElem? (i := 74) rfl)
theorem wd75 {Z : State} {a0 : Array Value} (hw : ∀ d ∈ tables_1, d.before a0 Z = true) : (Jvm.Cond.privateMethod ({ cls := "java/util/ArrayList", name := "grow", desc := "(I)[Ljava/lang/Object;" } : Jvm.MethodName)).before a0 Z = true := hw _ (List.mem_of_getElem? (i := 75) rfl)
theorem wd76 {Z : State} {a0 : Array Value} (hw : ∀ d ∈ tables_1, d.before a0 Z = true) : (Jvm.Cond.selects "java/util/ArrayList" ({ cls := "java/util/ArrayList", name := "grow", desc := "(I)[Ljava/lang/Object;" } : Jvm.MethodName) ({ cls := "java/util/ArrayList", name := "grow", desc := "(I)[Ljava/lang/Object;" } : Jvm.MethodName)).before a0 Z = true := hw _ (List.mem_of_getElem? (i := 76) rfl)
theorem wd77 {Z : State} {a0 : Array Value} (hw : ∀ d ∈ tables_1, d.before a0 Z = true) : (Jvm.Cond.code ({ cls := "java/util/ArrayList", name := "grow", desc := "(I)[Ljava/lang/Object;" } : Jvm.MethodName) jdk_38_method_6_code (4 : Nat) (Option.some (Jvm.ClassFile.FieldType.array (Jvm.ClassFile.FieldType.object "java/lang/Object")))).before a0 Z = true := hw _ (List.mem_of_getElem? (i := 77) rfl)
theorem wd78 {Z : State} {a0 : Array Value} (hw : ∀ d ∈ tables_1, d.before a0 Z = true) : (Jvm.Cond.methodLink "java/util/ArrayList" (79 : Nat) ({ cls := "java/lang/Math", name := "max", desc := "(II)I" } : Jvm.MethodName)).before a0 Z = true := hw _ (List.mem_of_getElem? (i := 78) rfl)
theorem wd79 {Z : State} {a0 : Array Value} (hw : ∀ d ∈ tables_1, d.before a0 Z = true) : (Jvm.Cond.static ({ cls := "java/lang/Math", name := "max", desc := "(II)I" } : Jvm.MethodName)).before a0 Z = true := hw _ (List.mem_of_getElem? (i := 79) rfl)
theorem wd80 {Z : State} {a0 : Array Value} (hw : ∀ d ∈ tables_1, d.before a0 Z = true) : (Jvm.Cond.initialized "java/lang/Math").before a0 Z = true := hw _ (List.mem_of_getElem? (i := 80) rfl)
theorem wd81 {Z : State} {a0 : Array Value} (hw : ∀ d ∈ tables_1, d.before a0 Z = true) : (Jvm.Cond.code ({ cls := "java/lang/Math", name := "max", desc := "(II)I" } : Jvm.MethodName) jdk_29_method_65_code (2 : Nat) (Option.some Jvm.ClassFile.FieldType.int)).before a0 Z = true := hw _ (List.mem_of_getElem? (i := 81) rfl)
theorem wd82 {Z : State} {a0 : Array Value} (hw : ∀ d ∈ tables_1, d.before a0 Z = true) : (Jvm.Cond.classLink "java/util/ArrayList" (7 : Nat) "java/lang/Object").before a0 Z = true := hw _ (List.mem_of_getElem? (i := 82) rfl)
theorem wd83 {Z : State} {a0 : Array Value} (hw : ∀ d ∈ tables_1, d.before a0 Z = true) : (Jvm.Cond.arrayOver (Jvm.ClassFile.FieldType.object "java/lang/Object")).before a0 Z = true := hw _ (List.mem_of_getElem? (i := 83) rfl)
theorem wd84 {Z : State} {a0 : Array Value} (hw : ∀ d ∈ tables_1, d.before a0 Z = true) : (Jvm.Cond.castable "java/lang/String" "java/lang/Object").before a0 Z = true := hw _ (List.mem_of_getElem? (i := 84) rfl)
theorem wd85 {Z : State} {a0 : Array Value} (hw : ∀ d ∈ tables_1, d.before a0 Z = true) : (Jvm.Cond.classLink "com/example/secondkey/secondkey/config/UserOwesSecondFactorPinLaw" (32 : Nat) "com/example/secondkey/secondkey/config/Config$User").before a0 Z = true := hw _ (List.mem_of_getElem? (i := 85) rfl)
theorem wd86 {Z : State} {a0 : Array Value} (hw : ∀ d ∈ tables_1, d.before a0 Z = true) : (Jvm.Cond.instantiable "com/example/secondkey/secondkey/config/Config$User" (5 : Nat)).before a0 Z = true := hw _ (List.mem_of_getElem? (i := 86) rfl)
theorem wd87 {Z : State} {a0 : Array Value} (hw : ∀ d ∈ tables_1, d.before a0 Z = true) : (Jvm.Cond.initialized "com/example/secondkey/secondkey/config/Config$User").before a0 Z = true := hw _ (List.mem_of_getElem? (i := 87) rfl)
theorem wd88 {Z : State} {a0 : Array Value} (hw : ∀ d ∈ tables_1, d.before a0 Z = true) : (Jvm.Cond.stringLink "com/example/secondkey/secondkey/config/UserOwesSecondFactorPinLaw" (34 : Nat) "pw").before a0 Z = true := hw _ (List.mem_of_getElem? (i := 88) rfl)
theorem wd91 {Z : State} {a0 : Array Value} (hw : ∀ d ∈ tables_1, d.before a0 Z = true) : (Jvm.Cond.methodLink "com/example/secondkey/secondkey/config/UserOwesSecondFactorPinLaw" (36 : Nat) ({ cls := "com/example/secondkey/secondkey/config/Config$User", name := "<init>", desc := "(Ljava/lang/String;Ljava/lang/String;Ljava/util/List;Ljava/lang/String;Lcom/example/secondkey/secondkey/config/Config$SecondFactor;)V" } : Jvm.MethodName)).before a0 Z = true := hw _ (List.mem_of_getElem? (i := 91) rfl)
theorem wd92 {Z : State} {a0 : Array Value} (hw : ∀ d ∈ tables_1, d.before a0 Z = true) : (Jvm.Cond.instanceMethod ({ cls := "com/example/secondkey/secondkey/config/Config$User", name := "<init>", desc := "(Ljava/lang/String;Ljava/lang/String;Ljava/util/List;Ljava/lang/String;Lcom/example/secondkey/secondkey/config/Config$SecondFactor;)V" } : Jvm.MethodName)).before a0 Z = true := hw _ (List.mem_of_getElem? (i := 92) rfl)
theorem wd93 {Z : State} {a0 : Array Value} (hw : ∀ d ∈ tables_1, d.before a0 Z = true) : (Jvm.Cond.code ({ cls := "com/example/secondkey/secondkey/config/Config$User", name := "<init>", desc := "(Ljava/lang/String;Ljava/lang/String;Ljava/util/List;Ljava/lang/String;Lcom/example/secondkey/secondkey/config/Config$SecondFactor;)V" } : Jvm.MethodName) prog_8_method_1_code (6 : Nat) (Option.none : Option Jvm.ClassFile.FieldType)).before a0 Z = true := hw _ (List.mem_of_getElem? (i := 93) rfl)
theorem wd94 {Z : State} {a0 : Array Value} (hw : ∀ d ∈ tables_1, d.before a0 Z = true) : (Jvm.Cond.methodLink "com/example/secondkey/secondkey/config/Config$User" (1 : Nat) ({ cls := "java/lang/Record", name := "<init>", desc := "()V" } : Jvm.MethodName)).before a0 Z = true := hw _ (List.mem_of_getElem? (i := 94) rfl)
theorem wd95 {Z : State} {a0 : Array Value} (hw : ∀ d ∈ tables_1, d.before a0 Z = true) : (Jvm.Cond.instanceMethod ({ cls := "java/lang/Record", name := "<init>", desc := "()V" } : Jvm.MethodName)).before a0 Z = true := hw _ (List.mem_of_getElem? (i := 95) rfl)
theorem wd97 {Z : State} {a0 : Array Value} (hw : ∀ d ∈ tables_1, d.before a0 Z = true) : (Jvm.Cond.initialized "java/lang/Record").before a0 Z = true := hw _ (List.mem_of_getElem? (i := 97) rfl)
theorem wd98 {Z : State} {a0 : Array Value} (hw : ∀ d ∈ tables_1, d.before a0 Z = true) : (Jvm.Cond.code ({ cls := "java/lang/Record", name := "<init>", desc := "()V" } : Jvm.MethodName) jdk_30_method_1_code (1 : Nat) (Option.none : Option Jvm.ClassFile.FieldType)).before a0 Z = true := hw _ (List.mem_of_getElem? (i := 98) rfl)
theorem wd99 {Z : State} {a0 : Array Value} (hw : ∀ d ∈ tables_1, d.before a0 Z = true) : (Jvm.Cond.methodLink "java/lang/Record" (1 : Nat) ({ cls := "java/lang/Object", name := "<init>", desc := "()V" } : Jvm.MethodName)).before a0 Z = true := hw _ (List.mem_of_getElem? (i := 99) rfl)
theorem wd100 {Z : State} {a0 : Array Value} (hw : ∀ d ∈ tables_1, d.before a0 Z = true) : (Jvm.Cond.fieldLink "com/example/secondkey/secondkey/config/Config$User" (7 : Nat) "com/example/secondkey/secondkey/config/Config$User" "username" "Ljava/lang/String;").before a0 Z = true := hw _ (List.mem_of_getElem? (i := 100) rfl)
theorem wd101 {Z : State} {a0 : Array Value} (hw : ∀ d ∈ tables_1, d.before a0 Z = true) : (Jvm.Cond.laysFinal "com/example/secondkey/secondkey/config/Config$User" "com/example/secondkey/secondkey/config/Config$User" "username" "Ljava/lang/String;").before a0 Z = true := hw _ (List.mem_of_getElem? (i := 101) rfl)
theorem wd102 {Z : State} {a0 : Array Value} (hw : ∀ d ∈ tables_1, d.before a0 Z = true) : (Jvm.Cond.fieldLink "com/example/secondkey/secondkey/config/Config$User" (13 : Nat) "com/example/secondkey/secondkey/config/Config$User" "password" "Ljava/lang/String;").before a0 Z = true := hw _ (List.mem_of_getElem? (i := 102) rfl)
theorem wd103 {Z : State} {a0 : Array Value} (hw : ∀ d ∈ tables_1, d.before a0 Z = true) : (Jvm.Cond.laysFinal "com/example/secondkey/secondkey/config/Config$User" "com/example/secondkey/secondkey/config/Config$User" "password" "Ljava/lang/String;").before a0 Z = true := hw _ (List.mem_of_getElem? (i := 103) rfl)
theorem wd104 {Z : State} {a0 : Array Value} (hw : ∀ d ∈ tables_1, d.before a0 Z = true) : (Jvm.Cond.fieldLink "com/example/secondkey/secondkey/config/Config$User" (16 : Nat) "com/example/secondkey/secondkey/config/Config$User" "roles" "Ljava/util/List;").before a0 Z = true := hw _ (List.mem_of_getElem? (i := 104) rfl)
theorem wd105 {Z : State} {a0 : Array Value} (hw : ∀ d ∈ tables_1, d.before a0 Z = true) : (Jvm.Cond.laysFinal "com/example/secondkey/secondkey/config/Config$User" "com/example/secondkey/secondkey/config/Config$User" "roles" "Ljava/util/List;").before a0 Z = true := hw _ (List.mem_of_getElem? (i := 105) rfl)
theorem wd106 {Z : State} {a0 : Array Value} (hw : ∀ d ∈ tables_1, d.before a0 Z = true) : (Jvm.Cond.fieldLink "com/example/secondkey/secondkey/config/Config$User" (20 : Nat) "com/example/secondkey/secondkey/config/Config$User" "totpSecret" "Ljava/lang/String;").before a0 Z = true := hw _ (List.mem_of_getElem? (i := 106) rfl)
theorem wd107 {Z : State} {a0 : Array Value} (hw : ∀ d ∈ tables_1, d.before a0 Z = true) : (Jvm.Cond.laysFinal "com/example/secondkey/secondkey/config/Config$User" "com/example/secondkey/secondkey/config/Config$User" "totpSecret" "Ljava/lang/String;").before a0 Z = true := hw _ (List.mem_of_getElem? (i := 107) rfl)
theorem wd108 {Z : State} {a0 : Array Value} (hw : ∀ d ∈ tables_1, d.before a0 Z = true) : (Jvm.Cond.fieldLink "com/example/secondkey/secondkey/config/Config$User" (23 : Nat) "com/example/secondkey/secondkey/config/Config$User" "secondFactor" "Lcom/example/secondkey/secondkey/config/Config$SecondFactor;").before a0 Z = true := hw _ (List.mem_of_getElem? (i := 108) rfl)
theorem wd109 {Z : State} {a0 : Array Value} (hw : ∀ d ∈ tables_1, d.before a0 Z = true) : (Jvm.Cond.laysFinal "com/example/secondkey/secondkey/config/Config$User" "com/example/secondkey/secondkey/config/Config$User" "secondFactor" "Lcom/example/secondkey/secondkey/config/Config$SecondFactor;").before a0 Z = true := hw _ (List.mem_of_getElem? (i := 109) rfl)
theorem wd110 {Z : State} {a0 : Array Value} (hw : ∀ d ∈ tables_1, d.before a0 Z = true) : (Jvm.Cond.methodLink "com/example/secondkey/secondkey/config/UserOwesSecondFactorPinLaw" (39 : Nat) ({ cls := "com/example/secondkey/secondkey/config/Config$User", name := "owesSecondFactor", desc := "(Z)Z" } : Jvm.MethodName)).before a0 Z = true := hw _ (List.mem_of_getElem? (i := 110) rfl)
theorem wd111 {Z : State} {a0 : Array Value} (hw : ∀ d ∈ tables_1, d.before a0 Z = true) : (Jvm.Cond.declares ({ cls := "com/example/secondkey/secondkey/config/Config$User", name := "owesSecondFactor", desc := "(Z)Z" } : Jvm.MethodName)).before a0 Z = true := hw _ (List.mem_of_getElem? (i := 111) rfl)
theorem wd112 {Z : State} {a0 : Array Value} (hw : ∀ d ∈ tables_1, d.before a0 Z = true) : (Jvm.Cond.instanceMethod ({ cls := "com/example/secondkey/secondkey/config/Config$User", name := "owesSecondFactor", desc := "(Z)Z" } : Jvm.MethodName)).before a0 Z = true := hw _ (List.mem_of_getElem? (i := 112) rfl)
theorem wd113 {Z : State} {a0 : Array Value} (hw : ∀ d ∈ tables_1, d.before a0 Z = true) : (Jvm.Cond.selects "com/example/secondkey/secondkey/config/Config$User" ({ cls := "com/example/secondkey/secondkey/config/Config$User", name := "owesSecondFactor", desc := "(Z)Z" } : Jvm.MethodName) ({ cls := "com/example/secondkey/secondkey/config/Config$User", name := "owesSecondFactor", desc := "(Z)Z" } : Jvm.MethodName)).before a0 Z = true := hw _ (List.mem_of_getElem? (i := 113) rfl)
theorem wd114 {Z : State} {a0 : Array Value} (hw : ∀ d ∈ tables_1, d.before a0 Z = true) : (Jvm.Cond.code ({ cls := "com/example/secondkey/secondkey/config/Config$User", name := "owesSecondFactor", desc := "(Z)Z" } : Jvm.MethodName) prog_8_method_3_code (2 : Nat) (Option.some Jvm.ClassFile.FieldType.boolean)).before a0 Z = true := hw _ (List.mem_of_getElem? (i := 114) rfl)
theorem wd115 {Z : State} {a0 : Array Value} (hw : ∀ d ∈ tables_1, d.before a0 Z = true) : (Jvm.Cond.methodLink "com/example/secondkey/secondkey/config/Config$User" (27 : Nat) ({ cls := "com/example/secondkey/secondkey/config/Config$User", name := "enrolled", desc := "()Z" } : Jvm.MethodName)).before a0 Z = true := hw _ (List.mem_of_getElem? (i := 115) rfl)
theorem wd116 {Z : State} {a0 : Array Value} (hw : ∀ d ∈ tables_1, d.before a0 Z = true) : (Jvm.Cond.declares ({ cls := "com/example/secondkey/secondkey/config/Config$User", name := "enrolled", desc := "()Z" } : Jvm.MethodName)).before a0 Z = true := hw _ (List.mem_of_getElem? (i := 116) rfl)
theorem wd117 {Z : State} {a0 : Array Value} (hw : ∀ d ∈ tables_1, d.before a0 Z = true) : (Jvm.Cond.instanceMethod ({ cls := "com/example/secondkey/secondkey/config/Config$User", name := "enrolled", desc := "()Z" } : Jvm.MethodName)).before a0 Z = true := hw _ (List.mem_of_getElem? (i := 117) rfl)
theorem wd118 {Z : State} {a0 : Array Value} (hw : ∀ d ∈ tables_1, d.before a0 Z = true) : (Jvm.Cond.selects "com/example/secondkey/secondkey/config/Config$User" ({ cls := "com/example/secondkey/secondkey/config/Config$User", name := "enrolled", desc := "()Z" } : Jvm.MethodName) ({ cls := "com/example/secondkey/secondkey/config/Config$User", name := "enrolled", desc := "()Z" } : Jvm.MethodName)).before a0 Z = true := hw _ (List.mem_of_getElem? (i := 118) rfl)
theorem wd119 {Z : State} {a0 : Array Value} (hw : ∀ d ∈ tables_1, d.before a0 Z = true) : (Jvm.Cond.code ({ cls := "com/example/secondkey/secondkey/config/Config$User", name := "enrolled", desc := "()Z" } : Jvm.MethodName) prog_8_method_2_code (1 : Nat) (Option.some Jvm.ClassFile.FieldType.boolean)).before a0 Z = true := hw _ (List.mem_of_getElem? (i := 119) rfl)
theorem wd120 {Z : State} {a0 : Array Value} (hw : ∀ d ∈ tables_1, d.before a0 Z = true) : (Jvm.Cond.classLink "com/example/secondkey/secondkey/config/UserOwesSecondFactorPinLaw" (7 : Nat) "java/lang/String").before a0 Z = true := hw _ (List.mem_of_getElem? (i := 120) rfl)
theorem wd121 {Z : State} {a0 : Array Value} (hw : ∀ d ∈ tables_1, d.before a0 Z = true) : (Jvm.Cond.methodLink "com/example/secondkey/secondkey/config/UserOwesSecondFactorPinLaw" (9 : Nat) ({ cls := "java/lang/String", name := "<init>", desc := "([C)V" } : Jvm.MethodName)).before a0 Z = true := hw _ (List.mem_of_getElem? (i := 121) rfl)
theorem wd122 {Z : State} {a0 : Array Value} (hw : ∀ d ∈ tables_1, d.before a0 Z = true) : (Jvm.Cond.instanceMethod ({ cls := "java/lang/String", name := "<init>", desc := "([C)V" } : Jvm.MethodName)).before a0 Z = true := hw _ (List.mem_of_getElem? (i := 122) rfl)
theorem wd137 {Z : State} {a0 : Array Value} (hw : ∀ d ∈ tables_1, d.before a0 Z = true) : (Jvm.Cond.fieldLink "com/example/secondkey/secondkey/config/UserOwesSecondFactorPinLaw" (12 : Nat) "com/example/secondkey/secondkey/config/Config$SecondFactor" "ALWAYS" "Lcom/example/secondkey/secondkey/config/Config$SecondFactor;").before a0 Z = true := hw _ (List.mem_of_getElem? (i := 137) rfl)
theorem wd138 {Z : State} {a0 : Array Value} (hw : ∀ d ∈ tables_1, d.before a0 Z = true) : (Jvm.Cond.laysStatic "com/example/secondkey/secondkey/config/Config$SecondFactor" "ALWAYS" "Lcom/example/secondkey/secondkey/config/Config$SecondFactor;").before a0 Z = true := hw _ (List.mem_of_getElem? (i := 138) rfl)
theorem wd139 {Z : State} {a0 : Array Value} (hw : ∀ d ∈ tables_1, d.before a0 Z = true) : (Jvm.Cond.fieldLink "com/example/secondkey/secondkey/config/Config$User" (31 : Nat) "com/example/secondkey/secondkey/config/Config$SecondFactor" "ALWAYS" "Lcom/example/secondkey/secondkey/config/Config$SecondFactor;").before a0 Z = true := hw _ (List.mem_of_getElem? (i := 139) rfl)
theorem dc_jdk_43_method_3_code_0 : decode jdk_43_method_3_code 0 = .ok (.iload_n 0, 1) := by decide +kernel
theorem dc_jdk_43_method_3_code_1 : decode jdk_43_method_3_code 1 = .ok (.sipush 255, 3) := by decide +kernel
theorem dc_jdk_43_method_3_code_4 : decode jdk_43_method_3_code 4 = .ok (.if_icmp .gt 7, 3) := by decide +kernel
theorem dc_jdk_43_method_3_code_7 : decode jdk_43_method_3_code 7 = .ok (.iconst 1, 1) := by decide +kernel
theorem dc_jdk_43_method_3_code_8 : decode jdk_43_method_3_code 8 = .ok (.goto 4, 3) := by decide +kernel
theorem dc_jdk_43_method_3_code_12 : decode jdk_43_method_3_code 12 = .ok (.ireturn, 1) := by decide +kernel
theorem dc_jdk_43_method_46_code_0 : decode jdk_43_method_46_code 0 = .ok (.iconst 1, 1) := by decide +kernel
theorem dc_jdk_43_method_46_code_1 : decode jdk_43_method_46_code 1 = .ok (.newarray .byte, 2) := by decide +kernel
theorem dc_jdk_43_method_46_code_3 : decode jdk_43_method_46_code 3 = .ok (.dup, 1) := by decide +kernel
theorem dc_jdk_43_method_46_code_4 : decode jdk_43_method_46_code 4 = .ok (.iconst 0, 1) := by decide +kernel
theorem dc_jdk_43_method_46_code_5 : decode jdk_43_method_46_code 5 = .ok (.iload_n 0, 1) := by decide +kernel
theorem dc_jdk_43_method_46_code_6 : decode jdk_43_method_46_code 6 = .ok (.i2b, 1) := by decide +kernel
theorem dc_jdk_43_method_46_code_7 : decode jdk_43_method_46_code 7 = .ok (.bastore, 1) := by decide +kernel
theorem dc_jdk_43_method_46_code_8 : decode jdk_43_method_46_code 8 = .ok (.areturn, 1) := by decide +kernel
theorem dc_jdk_42_method_151_code_0 : decode jdk_42_method_151_code 0 = .ok (.aload_n 0, 1) := by decide +kernel
theorem dc_jdk_42_method_151_code_1 : decode jdk_42_method_151_code 1 = .ok (.invokespecial 1, 3) := by decide +kernel
theorem dc_jdk_42_method_151_code_4 : decode jdk_42_method_151_code 4 = .ok (.aload_n 0, 1) := by decide +kernel
theorem dc_jdk_42_method_151_code_5 : decode jdk_42_method_151_code 5 = .ok (.aload_n 1, 1) := by decide +kernel
theorem dc_jdk_42_method_151_code_6 : decode jdk_42_method_151_code 6 = .ok (.putfield 9, 3) := by decide +kernel
theorem dc_jdk_42_method_151_code_9 : decode jdk_42_method_151_code 9 = .ok (.aload_n 0, 1) := by decide +kernel
theorem dc_jdk_42_method_151_code_10 : decode jdk_42_method_151_code 10 = .ok (.iload_n 2, 1) := by decide +kernel
theorem dc_jdk_42_method_151_code_11 : decode jdk_42_method_151_code 11 = .ok (.putfield 15, 3) := by decide +kernel
theorem dc_jdk_42_method_151_code_14 : decode jdk_42_method_151_code 14 = .ok (.return_, 1) := by decide +kernel
theorem dc_jdk_42_method_139_code_0 : decode jdk_42_method_139_code 0 = .ok (.getstatic 38, 3) := by decide +kernel
theorem dc_jdk_42_method_139_code_3 : decode jdk_42_method_139_code 3 = .ok (.ifCond .eq 23, 3) := by decide +kernel
theorem dc_jdk_42_method_139_code_6 : decode jdk_42_method_139_code 6 = .ok (.iload_n 0, 1) := by decide +kernel
theorem dc_jdk_42_method_139_code_7 : decode jdk_42_method_139_code 7 = .ok (.invokestatic 1015, 3) := by decide +kernel
theorem dc_jdk_42_method_139_code_10 : decode jdk_42_method_139_code 10 = .ok (.ifCond .eq 16, 3) := by decide +kernel
theorem dc_jdk_42_method_139_code_13 : decode jdk_42_method_139_code 13 = .ok (.new 10, 3) := by decide +kernel
theorem dc_jdk_42_method_139_code_16 : decode jdk_42_method_139_code 16 = .ok (.dup, 1) := by decide +kernel
theorem dc_jdk_42_method_139_code_17 : decode jdk_42_method_139_code 17 = .ok (.iload_n 0, 1) := by decide +kernel
theorem dc_jdk_42_method_139_code_18 : decode jdk_42_method_139_code 18 = .ok (.invokestatic 1018, 3) := by decide +kernel
theorem dc_jdk_42_method_139_code_21 : decode jdk_42_method_139_code 21 = .ok (.iconst 0, 1) := by decide +kernel
theorem dc_jdk_42_method_139_code_22 : decode jdk_42_method_139_code 22 = .ok (.invokespecial 209, 3) := by decide +kernel
theorem dc_jdk_42_method_139_code_25 : decode jdk_42_method_139_code 25 = .ok (.areturn, 1) := by decide +kernel
theorem dc_jdk_22_method_1_code_0 : decode jdk_22_method_1_code 0 = .ok (.aload_n 0, 1) := by decide +kernel
theorem dc_jdk_22_method_1_code_1 : decode jdk_22_method_1_code 1 = .ok (.invokespecial 1, 3) := by decide +kernel
theorem dc_jdk_22_method_1_code_4 : decode jdk_22_method_1_code 4 = .ok (.return_, 1) := by decide +kernel
theorem dc_jdk_39_method_1_code_0 : decode jdk_39_method_1_code 0 = .ok (.aload_n 0, 1) := by decide +kernel
theorem dc_jdk_39_method_1_code_1 : decode jdk_39_method_1_code 1 = .ok (.invokespecial 1, 3) := by decide +kernel
theorem dc_jdk_39_method_1_code_4 : decode jdk_39_method_1_code 4 = .ok (.aload_n 0, 1) := by decide +kernel
theorem dc_jdk_39_method_1_code_5 : decode jdk_39_method_1_code 5 = .ok (.iconst 0, 1) := by decide +kernel
theorem dc_jdk_39_method_1_code_6 : decode jdk_39_method_1_code 6 = .ok (.putfield 7, 3) := by decide +kernel
theorem dc_jdk_39_method_1_code_9 : decode jdk_39_method_1_code 9 = .ok (.return_, 1) := by decide +kernel
theorem dc_jdk_38_method_2_code_0 : decode jdk_38_method_2_code 0 = .ok (.aload_n 0, 1) := by decide +kernel
theorem dc_jdk_38_method_2_code_1 : decode jdk_38_method_2_code 1 = .ok (.invokespecial 1, 3) := by decide +kernel
theorem dc_jdk_38_method_2_code_4 : decode jdk_38_method_2_code 4 = .ok (.aload_n 0, 1) := by decide +kernel
theorem dc_jdk_38_method_2_code_5 : decode jdk_38_method_2_code 5 = .ok (.getstatic 39, 3) := by decide +kernel
theorem dc_jdk_38_method_2_code_8 : decode jdk_38_method_2_code 8 = .ok (.putfield 9, 3) := by decide +kernel
theorem dc_jdk_38_method_2_code_11 : decode jdk_38_method_2_code 11 = .ok (.return_, 1) := by decide +kernel
theorem dc_jdk_29_method_65_code_0 : decode jdk_29_method_65_code 0 = .ok (.iload_n 0, 1) := by decide +kernel
theorem dc_jdk_29_method_65_code_1 : decode jdk_29_method_65_code 1 = .ok (.iload_n 1, 1) := by decide +kernel
theorem dc_jdk_29_method_65_code_2 : decode jdk_29_method_65_code 2 = .ok (.if_icmp .lt 7, 3) := by decide +kernel
theorem dc_jdk_29_method_65_code_9 : decode jdk_29_method_65_code 9 = .ok (.iload_n 1, 1) := by decide +kernel
theorem dc_jdk_29_method_65_code_10 : decode jdk_29_method_65_code 10 = .ok (.ireturn, 1) := by decide +kernel
theorem dc_jdk_29_method_65_code_5 : decode jdk_29_method_65_code 5 = .ok (.iload_n 0, 1) := by decide +kernel
theorem dc_jdk_29_method_65_code_6 : decode jdk_29_method_65_code 6 = .ok (.goto 4, 3) := by decide +kernel
theorem pf_Math_max : plainFor (⟨"java/lang/Math", "max", "(II)I"⟩ : MethodName) = true := by decide +kernel
theorem dc_jdk_38_method_6_code_0 : decode jdk_38_method_6_code 0 = .ok (.aload_n 0, 1) := by decide +kernel
theorem dc_jdk_38_method_6_code_1 : decode jdk_38_method_6_code 1 = .ok (.getfield 9, 3) := by decide +kernel
theorem dc_jdk_38_method_6_code_4 : decode jdk_38_method_6_code 4 = .ok (.arraylength, 1) := by decide +kernel
theorem dc_jdk_38_method_6_code_5 : decode jdk_38_method_6_code 5 = .ok (.istore_n 2, 1) := by decide +kernel
theorem dc_jdk_38_method_6_code_6 : decode jdk_38_method_6_code 6 = .ok (.iload_n 2, 1) := by decide +kernel
theorem dc_jdk_38_method_6_code_7 : decode jdk_38_method_6_code 7 = .ok (.ifCond .gt 13, 3) := by decide +kernel
theorem dc_jdk_38_method_6_code_10 : decode jdk_38_method_6_code 10 = .ok (.aload_n 0, 1) := by decide +kernel
theorem dc_jdk_38_method_6_code_11 : decode jdk_38_method_6_code 11 = .ok (.getfield 9, 3) := by decide +kernel
theorem dc_jdk_38_method_6_code_14 : decode jdk_38_method_6_code 14 = .ok (.getstatic 39, 3) := by decide +kernel
theorem dc_jdk_38_method_6_code_17 : decode jdk_38_method_6_code 17 = .ok (.if_acmp .eq 28, 3) := by decide +kernel
theorem dc_jdk_38_method_6_code_45 : decode jdk_38_method_6_code 45 = .ok (.aload_n 0, 1) := by decide +kernel
theorem dc_jdk_38_method_6_code_46 : decode jdk_38_method_6_code 46 = .ok (.bipush 10, 2) := by decide +kernel
theorem dc_jdk_38_method_6_code_48 : decode jdk_38_method_6_code 48 = .ok (.iload_n 1, 1) := by decide +kernel
theorem dc_jdk_38_method_6_code_49 : decode jdk_38_method_6_code 49 = .ok (.invokestatic 79, 3) := by decide +kernel
theorem dc_jdk_38_method_6_code_52 : decode jdk_38_method_6_code 52 = .ok (.anewarray 7, 3) := by decide +kernel
theorem dc_jdk_38_method_6_code_55 : decode jdk_38_method_6_code 55 = .ok (.dup_x1, 1) := by decide +kernel
theorem dc_jdk_38_method_6_code_56 : decode jdk_38_method_6_code 56 = .ok (.putfield 9, 3) := by decide +kernel
theorem dc_jdk_38_method_6_code_59 : decode jdk_38_method_6_code 59 = .ok (.areturn, 1) := by decide +kernel
theorem dc_jdk_38_method_7_code_0 : decode jdk_38_method_7_code 0 = .ok (.aload_n 0, 1) := by decide +kernel
theorem dc_jdk_38_method_7_code_1 : decode jdk_38_method_7_code 1 = .ok (.aload_n 0, 1) := by decide +kernel
theorem dc_jdk_38_method_7_code_2 : decode jdk_38_method_7_code 2 = .ok (.getfield 48, 3) := by decide +kernel
theorem dc_jdk_38_method_7_code_5 : decode jdk_38_method_7_code 5 = .ok (.iconst 1, 1) := by decide +kernel
theorem dc_jdk_38_method_7_code_6 : decode jdk_38_method_7_code 6 = .ok (.iadd, 1) := by decide +kernel
theorem dc_jdk_38_method_7_code_7 : decode jdk_38_method_7_code 7 = .ok (.invokevirtual 69, 3) := by decide +kernel
theorem dc_jdk_38_method_7_code_10 : decode jdk_38_method_7_code 10 = .ok (.areturn, 1) := by decide +kernel
theorem dc_jdk_38_method_24_code_0 : decode jdk_38_method_24_code 0 = .ok (.iload_n 3, 1) := by decide +kernel
theorem dc_jdk_38_method_24_code_1 : decode jdk_38_method_24_code 1 = .ok (.aload_n 2, 1) := by decide +kernel
theorem dc_jdk_38_method_24_code_2 : decode jdk_38_method_24_code 2 = .ok (.arraylength, 1) := by decide +kernel
theorem dc_jdk_38_method_24_code_3 : decode jdk_38_method_24_code 3 = .ok (.if_icmp .ne 8, 3) := by decide +kernel
theorem dc_jdk_38_method_24_code_6 : decode jdk_38_method_24_code 6 = .ok (.aload_n 0, 1) := by decide +kernel
theorem dc_jdk_38_method_24_code_7 : decode jdk_38_method_24_code 7 = .ok (.invokevirtual 129, 3) := by decide +kernel
theorem dc_jdk_38_method_24_code_10 : decode jdk_38_method_24_code 10 = .ok (.astore_n 2, 1) := by decide +kernel
theorem dc_jdk_38_method_24_code_11 : decode jdk_38_method_24_code 11 = .ok (.aload_n 2, 1) := by decide +kernel
theorem dc_jdk_38_method_24_code_12 : decode jdk_38_method_24_code 12 = .ok (.iload_n 3, 1) := by decide +kernel
theorem dc_jdk_38_method_24_code_13 : decode jdk_38_method_24_code 13 = .ok (.aload_n 1, 1) := by decide +kernel
theorem dc_jdk_38_method_24_code_14 : decode jdk_38_method_24_code 14 = .ok (.aastore, 1) := by decide +kernel
theorem dc_jdk_38_method_24_code_15 : decode jdk_38_method_24_code 15 = .ok (.aload_n 0, 1) := by decide +kernel
theorem dc_jdk_38_method_24_code_16 : decode jdk_38_method_24_code 16 = .ok (.iload_n 3, 1) := by decide +kernel
theorem dc_jdk_38_method_24_code_17 : decode jdk_38_method_24_code 17 = .ok (.iconst 1, 1) := by decide +kernel
theorem dc_jdk_38_method_24_code_18 : decode jdk_38_method_24_code 18 = .ok (.iadd, 1) := by decide +kernel
theorem dc_jdk_38_method_24_code_19 : decode jdk_38_method_24_code 19 = .ok (.putfield 48, 3) := by decide +kernel
theorem dc_jdk_38_method_24_code_22 : decode jdk_38_method_24_code 22 = .ok (.return_, 1) := by decide +kernel
theorem dc_jdk_38_method_25_code_0 : decode jdk_38_method_25_code 0 = .ok (.aload_n 0, 1) := by decide +kernel
theorem dc_jdk_38_method_25_code_1 : decode jdk_38_method_25_code 1 = .ok (.dup, 1) := by decide +kernel
theorem dc_jdk_38_method_25_code_2 : decode jdk_38_method_25_code 2 = .ok (.getfield 63, 3) := by decide +kernel
theorem dc_jdk_38_method_25_code_5 : decode jdk_38_method_25_code 5 = .ok (.iconst 1, 1) := by decide +kernel
theorem dc_jdk_38_method_25_code_6 : decode jdk_38_method_25_code 6 = .ok (.iadd, 1) := by decide +kernel
theorem dc_jdk_38_method_25_code_7 : decode jdk_38_method_25_code 7 = .ok (.putfield 63, 3) := by decide +kernel
theorem dc_jdk_38_method_25_code_10 : decode jdk_38_method_25_code 10 = .ok (.aload_n 0, 1) := by decide +kernel
theorem dc_jdk_38_method_25_code_11 : decode jdk_38_method_25_code 11 = .ok (.aload_n 1, 1) := by decide +kernel
theorem dc_jdk_38_method_25_code_12 : decode jdk_38_method_25_code 12 = .ok (.aload_n 0, 1) := by decide +kernel
theorem dc_jdk_38_method_25_code_13 : decode jdk_38_method_25_code 13 = .ok (.getfield 9, 3) := by decide +kernel
theorem dc_jdk_38_method_25_code_16 : decode jdk_38_method_25_code 16 = .ok (.aload_n 0, 1) := by decide +kernel
theorem dc_jdk_38_method_25_code_17 : decode jdk_38_method_25_code 17 = .ok (.getfield 48, 3) := by decide +kernel
theorem dc_jdk_38_method_25_code_20 : decode jdk_38_method_25_code 20 = .ok (.invokevirtual 131, 3) := by decide +kernel
theorem dc_jdk_38_method_25_code_23 : decode jdk_38_method_25_code 23 = .ok (.iconst 1, 1) := by decide +kernel
theorem dc_jdk_38_method_25_code_24 : decode jdk_38_method_25_code 24 = .ok (.ireturn, 1) := by decide +kernel
theorem dc_jdk_30_method_1_code_0 : decode jdk_30_method_1_code 0 = .ok (.aload_n 0, 1) := by decide +kernel
theorem dc_jdk_30_method_1_code_1 : decode jdk_30_method_1_code 1 = .ok (.invokespecial 1, 3) := by decide +kernel
theorem dc_jdk_30_method_1_code_4 : decode jdk_30_method_1_code 4 = .ok (.return_, 1) := by decide +kernel
theorem dc_prog_8_method_1_code_0 : decode prog_8_method_1_code 0 = .ok (.aload_n 0, 1) := by decide +kernel
theorem dc_prog_8_method_1_code_1 : decode prog_8_method_1_code 1 = .ok (.invokespecial 1, 3) := by decide +kernel
theorem dc_prog_8_method_1_code_4 : decode prog_8_method_1_code 4 = .ok (.aload_n 0, 1) := by decide +kernel
theorem dc_prog_8_method_1_code_5 : decode prog_8_method_1_code 5 = .ok (.aload_n 1, 1) := by decide +kernel
theorem dc_prog_8_method_1_code_6 : decode prog_8_method_1_code 6 = .ok (.putfield 7, 3) := by decide +kernel
theorem dc_prog_8_method_1_code_9 : decode prog_8_method_1_code 9 = .ok (.aload_n 0, 1) := by decide +kernel
theorem dc_prog_8_method_1_code_10 : decode prog_8_method_1_code 10 = .ok (.aload_n 2, 1) := by decide +kernel
theorem dc_prog_8_method_1_code_11 : decode prog_8_method_1_code 11 = .ok (.putfield 13, 3) := by decide +kernel
theorem dc_prog_8_method_1_code_14 : decode prog_8_method_1_code 14 = .ok (.aload_n 0, 1) := by decide +kernel
theorem dc_prog_8_method_1_code_15 : decode prog_8_method_1_code 15 = .ok (.aload_n 3, 1) := by decide +kernel
theorem dc_prog_8_method_1_code_16 : decode prog_8_method_1_code 16 = .ok (.putfield 16, 3) := by decide +kernel
theorem dc_prog_8_method_1_code_19 : decode prog_8_method_1_code 19 = .ok (.aload_n 0, 1) := by decide +kernel
theorem dc_prog_8_method_1_code_20 : decode prog_8_method_1_code 20 = .ok (.aload 4, 2) := by decide +kernel
theorem dc_prog_8_method_1_code_22 : decode prog_8_method_1_code 22 = .ok (.putfield 20, 3) := by decide +kernel
theorem dc_prog_8_method_1_code_25 : decode prog_8_method_1_code 25 = .ok (.aload_n 0, 1) := by decide +kernel
theorem dc_prog_8_method_1_code_26 : decode prog_8_method_1_code 26 = .ok (.aload 5, 2) := by decide +kernel
theorem dc_prog_8_method_1_code_28 : decode prog_8_method_1_code 28 = .ok (.putfield 23, 3) := by decide +kernel
theorem dc_prog_8_method_1_code_31 : decode prog_8_method_1_code 31 = .ok (.return_, 1) := by decide +kernel
theorem dc_prog_8_method_2_code_0 : decode prog_8_method_2_code 0 = .ok (.aload_n 0, 1) := by decide +kernel
theorem dc_prog_8_method_2_code_1 : decode prog_8_method_2_code 1 = .ok (.getfield 20, 3) := by decide +kernel
theorem dc_prog_8_method_2_code_4 : decode prog_8_method_2_code 4 = .ok (.ifnull 7, 3) := by decide +kernel
theorem dc_prog_8_method_2_code_11 : decode prog_8_method_2_code 11 = .ok (.iconst 0, 1) := by decide +kernel
theorem dc_prog_8_method_2_code_12 : decode prog_8_method_2_code 12 = .ok (.ireturn, 1) := by decide +kernel
theorem dc_prog_8_method_2_code_7 : decode prog_8_method_2_code 7 = .ok (.iconst 1, 1) := by decide +kernel
theorem dc_prog_8_method_2_code_8 : decode prog_8_method_2_code 8 = .ok (.goto 4, 3) := by decide +kernel
theorem dc_prog_8_method_3_code_0 : decode prog_8_method_3_code 0 = .ok (.aload_n 0, 1) := by decide +kernel
theorem dc_prog_8_method_3_code_1 : decode prog_8_method_3_code 1 = .ok (.invokevirtual 27, 3) := by decide +kernel
theorem dc_prog_8_method_3_code_4 : decode prog_8_method_3_code 4 = .ok (.ifCond .eq 21, 3) := by decide +kernel
theorem dc_prog_8_method_3_code_25 : decode prog_8_method_3_code 25 = .ok (.iconst 0, 1) := by decide +kernel
theorem dc_prog_8_method_3_code_26 : decode prog_8_method_3_code 26 = .ok (.ireturn, 1) := by decide +kernel
theorem dc_prog_8_method_3_code_7 : decode prog_8_method_3_code 7 = .ok (.aload_n 0, 1) := by decide +kernel
theorem dc_prog_8_method_3_code_8 : decode prog_8_method_3_code 8 = .ok (.getfield 23, 3) := by decide +kernel
theorem dc_prog_8_method_3_code_11 : decode prog_8_method_3_code 11 = .ok (.getstatic 31, 3) := by decide +kernel
theorem dc_prog_8_method_3_code_14 : decode prog_8_method_3_code 14 = .ok (.if_acmp .eq 7, 3) := by decide +kernel
theorem dc_prog_8_method_3_code_21 : decode prog_8_method_3_code 21 = .ok (.iconst 1, 1) := by decide +kernel
theorem dc_prog_8_method_3_code_22 : decode prog_8_method_3_code 22 = .ok (.goto 4, 3) := by decide +kernel
theorem dc_prog_8_method_3_code_17 : decode prog_8_method_3_code 17 = .ok (.iload_n 1, 1) := by decide +kernel
theorem dc_prog_8_method_3_code_18 : decode prog_8_method_3_code 18 = .ok (.ifCond .eq 7, 3) := by decide +kernel
theorem pd_0 : parseMethodDescriptor "(C)Z" = some ⟨[.char], some .boolean⟩ := by decide +kernel
theorem pd_1 : parseMethodDescriptor "(C)[B" = some ⟨[.char], some (.array .byte)⟩ := by decide +kernel
theorem pd_2 : parseMethodDescriptor "([BB)V" = some ⟨[(.array .byte), .byte], none⟩ := by decide +kernel
theorem pd_3 : parseMethodDescriptor "()V" = some ⟨[], none⟩ := by decide +kernel
theorem pd_4 : parseMethodDescriptor "(II)I" = some ⟨[.int, .int], some .int⟩ := by decide +kernel
theorem pd_5 : parseMethodDescriptor "(I)[Ljava/lang/Object;" = some ⟨[.int], some (.array (.object "java/lang/Object"))⟩ := by decide +kernel
theorem pd_6 : parseMethodDescriptor "()[Ljava/lang/Object;" = some ⟨[], some (.array (.object "java/lang/Object"))⟩ := by decide +kernel
theorem pd_7 : parseMethodDescriptor "(Ljava/lang/Object;[Ljava/lang/Object;I)V" = some ⟨[(.object "java/lang/Object"), (.array (.object "java/lang/Object")), .int], none⟩ := by decide +kernel
theorem pd_8 : parseMethodDescriptor "()Z" = some ⟨[], some .boolean⟩ := by decide +kernel
theorem pd_9 : parseMethodDescriptor "(C)Ljava/lang/String;" = some ⟨[.char], some (.object "java/lang/String")⟩ := by decide +kernel
theorem pd_10 : parseMethodDescriptor "(Ljava/lang/Object;)Z" = some ⟨[(.object "java/lang/Object")], some .boolean⟩ := by decide +kernel
theorem pd_11 : parseMethodDescriptor "(Ljava/lang/String;Ljava/lang/String;Ljava/util/List;Ljava/lang/String;Lcom/example/secondkey/secondkey/config/Config$SecondFactor;)V" = some ⟨[(.object "java/lang/String"), (.object "java/lang/String"), (.object "java/util/List"), (.object "java/lang/String"), (.object "com/example/secondkey/secondkey/config/Config$SecondFactor")], none⟩ := by decide +kernel
theorem pd_12 : parseMethodDescriptor "(Z)Z" = some ⟨[.boolean], some .boolean⟩ := by decide +kernel
theorem pn_0 : plainName "java/lang/StringLatin1" = true := by first | (simp [plainName, overriddenIn]; done) | decide +kernel
theorem pn_1 : plainName "java/lang/String" = true := by first | (simp [plainName, overriddenIn]; done) | decide +kernel
theorem pn_2 : plainName "java/util/AbstractCollection" = true := by first | (simp [plainName, overriddenIn]; done) | decide +kernel
theorem pn_3 : plainName "java/util/AbstractList" = true := by first | (simp [plainName, overriddenIn]; done) | decide +kernel
theorem pn_4 : plainName "java/util/ArrayList" = true := by first | (simp [plainName, overriddenIn]; done) | decide +kernel
theorem pn_5 : plainName "java/lang/Record" = true := by first | (simp [plainName, overriddenIn]; done) | decide +kernel
theorem pn_6 : plainName "com/example/secondkey/secondkey/config/Config$User" = true := by first | (simp [plainName, overriddenIn]; done) | decide +kernel
theorem pn_7 : plainName "com/example/secondkey/secondkey/config/UserOwesSecondFactorPinLaw" = true := by first | (simp [plainName, overriddenIn]; done) | decide +kernel
set_option maxRecDepth 65536 in
set_option maxHeartbeats 40000000 in
theorem c_canenc (l : Launch) (Z : State) (a0 : Array Value) (hw : ∀ d ∈ tables_1, d.before a0 Z = true) (hEL : EW Z a0 []) (h0 : Heap) (hE0 : Ext Z.heap h0) (z : Int32) (hc1 : ¬ z < 0) (hc2 : ¬ (255 : Int32) < z) :
    Con l Z [] [] (⟨"java/lang/StringLatin1", "canEncode", "(C)Z"⟩ : MethodName) jdk_43_method_3_code 1 (some .boolean) [] ({ frames := 0, cells := 0, slots := 0, locals := 0 } : Room) #[(.int z)] h0 (fun v h' => v = (some (.int 1)) ∧ h' = h0) := by
  refine Con.mk (plainFor_of_name pn_0) hEL hE0 (fun x hx => by cases hx) ?_
  intro p e s m below meth c T0 hby hml hret hnm W0
  rw [(show entryFrame m #[(.int z)] 1 = mkF m 0 #[.val (.int z)] [] from by first | (simp [entryFrame, mkF, argsToLocals, Value.category]; done) | rfl)]
  refine Go.by (fun t9_ q9_ => XS.iloadN W0.here W0.hx rfl (hb hby dc_jdk_43_method_3_code_0) rfl q9_) ?_
  show Go p e below s Z [] _ _ _ (T0.setTop (mkF m 1 #[.val (.int z)] [(.int z)]))
  refine Go.by (fun t9_ q9_ => XS.sipush W0.here W0.hx rfl (hb hby dc_jdk_43_method_3_code_1) q9_) ?_
  show Go p e below s Z [] _ _ _ (T0.setTop (mkF m 4 #[.val (.int z)] [(.int (255 : Int32)), (.int z)]))
  refine Go.by (fun t9_ q9_ => XS.icmpNo W0.here W0.hx rfl (hb hby dc_jdk_43_method_3_code_4) rfl (flt hc2).2.2.1 q9_) ?_
  show Go p e below s Z [] _ _ _ (T0.setTop (mkF m 7 #[.val (.int z)] []))
  refine Go.by (fun t9_ q9_ => XS.iconst W0.here W0.hx rfl (hb hby dc_jdk_43_method_3_code_7) q9_) ?_
  show Go p e below s Z [] _ _ _ (T0.setTop (mkF m 8 #[.val (.int z)] [(.int (1 : Int32))]))
  refine Go.by (fun t9_ q9_ => XS.goto W0.here W0.hx rfl (pc0 := 8) (pc' := 12) rfl (hb hby dc_jdk_43_method_3_code_8) (by decide) (by decide) q9_) ?_
  show Go p e below s Z [] _ _ _ (T0.setTop (mkF m 12 #[.val (.int z)] [(.int (1 : Int32))]))
  exact W0.retN (z' := (1 : Int32)) (by decide) (by decide) hret (by simp) (hb hby dc_jdk_43_method_3_code_12) rfl ⟨rfl, rfl⟩
set_option maxRecDepth 65536 in
set_option maxHeartbeats 40000000 in
theorem c_tobytes (l : Launch) (Z : State) (a0 : Array Value) (hw : ∀ d ∈ tables_1, d.before a0 Z = true) (hEL : EW Z a0 []) (h0 : Heap) (hE0 : Ext Z.heap h0) (z : Int32)  :
    Con l Z [] [] (⟨"java/lang/StringLatin1", "toBytes", "(C)[B"⟩ : MethodName) jdk_43_method_46_code 1 (some (.array .byte)) [] ({ frames := 0, cells := 1, slots := 1, locals := 0 } : Room) #[(.int z)] h0 (fun v h' => ∃ t kt, v = some (.ref t) ∧ Ext h0 h' ∧ Arv Z h' t kt .byte 1 [(.int (StrChars.lo8 z))] (.int (0 : Int32))) := by
  refine Con.mk (plainFor_of_name pn_0) hEL hE0 (fun x hx => by cases hx) ?_
  intro p e s m below meth c T0 hby hml hret hnm W0
  rw [(show entryFrame m #[(.int z)] 1 = mkF m 0 #[.val (.int z)] [] from by first | (simp [entryFrame, mkF, argsToLocals, Value.category]; done) | rfl)]
  refine Go.by (fun t9_ q9_ => XS.iconst W0.here W0.hx rfl (hb hby dc_jdk_43_method_46_code_0) q9_) ?_
  show Go p e below s Z [] _ _ _ (T0.setTop (mkF m 1 #[.val (.int z)] [(.int (1 : Int32))]))
  refine W0.newp (aty := .byte) (wd44 hw) (hb hby dc_jdk_43_method_46_code_1) (by decide) (cap := 1) (by decide) (by decide) (k' := 1) (n' := 1) rfl rfl (by decide) (by decide) (ad := "[B") rfl ?_
  intro T1 h2 t k_t W3 E4 g_t z_t A_t V_t
  have V1_t : Arv Z h2 t k_t .byte (1 : Int32) [(.int (0 : Int32))] (.int (0 : Int32)) := V_t.pad (pad_rep [] (.int (0 : Int32)) 1)
  show Go p e below s Z [] _ _ _ (T1.setTop (mkF m 3 #[.val (.int z)] [(.ref t)]))
  refine Go.by (fun t9_ q9_ => XS.dup W3.here W3.hx rfl (hb hby dc_jdk_43_method_46_code_3) rfl rfl q9_) ?_
  show Go p e below s Z [] _ _ _ (T1.setTop (mkF m 4 #[.val (.int z)] [(.ref t), (.ref t)]))
  refine Go.by (fun t9_ q9_ => XS.iconst W3.here W3.hx rfl (hb hby dc_jdk_43_method_46_code_4) q9_) ?_
  show Go p e below s Z [] _ _ _ (T1.setTop (mkF m 5 #[.val (.int z)] [(.int (0 : Int32)), (.ref t), (.ref t)]))
  refine Go.by (fun t9_ q9_ => XS.iloadN W3.here W3.hx rfl (hb hby dc_jdk_43_method_46_code_5) rfl q9_) ?_
  show Go p e below s Z [] _ _ _ (T1.setTop (mkF m 6 #[.val (.int z)] [(.int z), (.int (0 : Int32)), (.ref t), (.ref t)]))
  refine Go.by (fun t9_ q9_ => XS.i2b W3.here W3.hx rfl (hb hby dc_jdk_43_method_46_code_6) rfl q9_) ?_
  show Go p e below s Z [] _ _ _ (T1.setTop (mkF m 7 #[.val (.int z)] [(.int (z.toInt8.toInt32)), (.int (0 : Int32)), (.ref t), (.ref t)]))
  refine W3.bast V1_t ⟨by decide, by decide⟩ (i := 0) rfl (by simp) (v' := (StrChars.lo8 z)) (by simp [nar, StrChars.lo8, lo8_lo8]) z_t (List.mem_of_getElem? (i := 0) rfl) (hb hby dc_jdk_43_method_46_code_7) ?_
  intro T5 h6 W7 Wr8 V9_t'
  have V9_t : Arv Z h6 t k_t .byte (1 : Int32) [(.int (StrChars.lo8 z))] (.int (0 : Int32)) := V9_t'
  show Go p e below s Z [] _ _ _ (T5.setTop (mkF m 8 #[.val (.int z)] [(.ref t)]))
  have X10 : Ext h0 h6 := (Ext.wr' E4 Wr8 (Nat.le_of_eq g_t))
  exact W7.retA (by decide) (by decide) hret rfl rfl (hb hby dc_jdk_43_method_46_code_8) ⟨t, _, rfl, X10, V9_t⟩
set_option maxRecDepth 65536 in
set_option maxHeartbeats 40000000 in
theorem c_strbb (l : Launch) (Z : State) (a0 : Array Value) (hw : ∀ d ∈ tables_1, d.before a0 Z = true) (hEL : EW Z a0 []) (h0 : Heap) (hE0 : Ext Z.heap h0) (x t : Addr) (E_x : Exa Z h0 x "java/lang/String") (FV : Fld Z h0 x "java/lang/String" "value" "[B" .null) (FC : Fld Z h0 x "java/lang/String" "coder" "B" (.int 0)) (z_x : Z.heap.size ≤ x) :
    Con l Z [] [x] (⟨"java/lang/String", "<init>", "([BB)V"⟩ : MethodName) jdk_42_method_151_code 3 none [] ({ frames := 1, cells := 0, slots := 0, locals := 12 } : Room) #[(.ref x), (.ref t), (.int (0 : Int32))] h0 (fun v h' => v = none ∧ Keep h0 h' [x] ∧ Exa Z h' x "java/lang/String" ∧ Fld Z h' x "java/lang/String" "value" "[B" (.ref t) ∧ Fld Z h' x "java/lang/String" "coder" "B" (.int 0)) := by
  refine Con.mk (plainFor_of_name pn_1) hEL hE0 (allS E_x.lt all0) ?_
  intro p e s m below meth c T0 hby hml hret hnm W0
  rw [(show entryFrame m #[(.ref x), (.ref t), (.int (0 : Int32))] 3 = mkF m 0 #[.val (.ref x), .val (.ref t), .val (.int (0 : Int32))] [] from by first | (simp [entryFrame, mkF, argsToLocals, Value.category]; done) | rfl)]
  refine Go.by (fun t9_ q9_ => XS.aloadN W0.here W0.hx rfl (hb hby dc_jdk_42_method_151_code_0) rfl rfl q9_) ?_
  show Go p e below s Z [] _ _ _ (T0.setTop (mkF m 1 #[.val (.ref x), .val (.ref t), .val (.int (0 : Int32))] [(.ref x)]))
  refine W0.initO (wd49 hw) (wd23 hw) (wd24 hw) (by rw [hml]; rfl) (hb hby dc_jdk_42_method_151_code_1) (by decide) (Wt := 0) (Nat.le_of_eq rfl) (by decide) ?_
  intro T11 W12
  show Go p e below s Z [] _ _ _ (T11.setTop (mkF m 4 #[.val (.ref x), .val (.ref t), .val (.int (0 : Int32))] []))
  refine Go.by (fun t9_ q9_ => XS.aloadN W12.here W12.hx rfl (hb hby dc_jdk_42_method_151_code_4) rfl rfl q9_) ?_
  show Go p e below s Z [] _ _ _ (T11.setTop (mkF m 5 #[.val (.ref x), .val (.ref t), .val (.int (0 : Int32))] [(.ref x)]))
  refine Go.by (fun t9_ q9_ => XS.aloadN W12.here W12.hx rfl (hb hby dc_jdk_42_method_151_code_5) rfl rfl q9_) ?_
  show Go p e below s Z [] _ _ _ (T11.setTop (mkF m 6 #[.val (.ref x), .val (.ref t), .val (.int (0 : Int32))] [(.ref t), (.ref x)]))
  refine W12.putf (host := "") (Or.inl (wd50 hw)) Via.refl FV E_x (Or.inr ⟨(wd51 hw), rfl, hnm⟩) (wd40 hw) (ty := (.array .byte)) (by decide) rfl rfl z_x (List.mem_of_getElem? (i := 0) rfl) (hb hby dc_jdk_42_method_151_code_6) ?_
  intro T13 h14 W15 Wr16
  have F17 : Fld Z h14 x "java/lang/String" "value" "[B" (.ref t) := FV.same Wr16
  have F18 : Fld Z h14 x "java/lang/String" "coder" "B" (.int 0) := FC.other Wr16 (Or.inr (slot_ne (Or.inr (wd53 hw)) (Or.inr (wd51 hw)) (by decide) (t := .byte) (t' := (.array .byte)) (by decide) (by decide)))
  have A19 : Exa Z h14 x "java/lang/String" := E_x.wr Wr16
  show Go p e below s Z [] _ _ _ (T13.setTop (mkF m 9 #[.val (.ref x), .val (.ref t), .val (.int (0 : Int32))] []))
  refine Go.by (fun t9_ q9_ => XS.aloadN W15.here W15.hx rfl (hb hby dc_jdk_42_method_151_code_9) rfl rfl q9_) ?_
  show Go p e below s Z [] _ _ _ (T13.setTop (mkF m 10 #[.val (.ref x), .val (.ref t), .val (.int (0 : Int32))] [(.ref x)]))
  refine Go.by (fun t9_ q9_ => XS.iloadN W15.here W15.hx rfl (hb hby dc_jdk_42_method_151_code_10) rfl q9_) ?_
  show Go p e below s Z [] _ _ _ (T13.setTop (mkF m 11 #[.val (.ref x), .val (.ref t), .val (.int (0 : Int32))] [(.int (0 : Int32)), (.ref x)]))
  refine W15.putf (host := "") (Or.inl (wd52 hw)) Via.refl F18 A19 (Or.inr ⟨(wd53 hw), rfl, hnm⟩) (wd40 hw) (ty := .byte) (by decide) rfl rfl z_x (List.mem_of_getElem? (i := 0) rfl) (hb hby dc_jdk_42_method_151_code_11) ?_
  intro T20 h21 W22 Wr23
  have F24 : Fld Z h21 x "java/lang/String" "coder" "B" (.int (0 : Int32)) := F18.same Wr23
  have F25 : Fld Z h21 x "java/lang/String" "value" "[B" (.ref t) := F17.other Wr23 (Or.inr (slot_ne (Or.inr (wd51 hw)) (Or.inr (wd53 hw)) (by decide) (t := (.array .byte)) (t' := .byte) (by decide) (by decide)))
  have A26 : Exa Z h21 x "java/lang/String" := A19.wr Wr23
  show Go p e below s Z [] _ _ _ (T20.setTop (mkF m 14 #[.val (.ref x), .val (.ref t), .val (.int (0 : Int32))] []))
  exact W22.retV (by decide) (by decide) hret (hb hby dc_jdk_42_method_151_code_14) ⟨rfl, (((Keep.refl h0 [x]).wr Wr16 (Or.inl (List.mem_of_getElem? (i := 0) rfl))).wr Wr23 (Or.inl (List.mem_of_getElem? (i := 0) rfl))), A26, F25, F24⟩
set_option maxRecDepth 65536 in
set_option maxHeartbeats 40000000 in
theorem c_valueof (l : Launch) (Z : State) (a0 : Array Value) (hw : ∀ d ∈ tables_1, d.before a0 Z = true) (hEL : EW Z a0 []) (h0 : Heap) (hE0 : Ext Z.heap h0) (G1 z : Int32) (SG1 : Sta Z Z.heap "java/lang/String" "COMPACT_STRINGS" "Z" (.int G1)) (hG : ¬ G1 = 0) (hc1 : ¬ z < 0) (hc2 : ¬ (255 : Int32) < z) :
    Con l Z [] [] (⟨"java/lang/String", "valueOf", "(C)Ljava/lang/String;"⟩ : MethodName) jdk_42_method_139_code 1 (some (.object "java/lang/String")) [] ({ frames := 2, cells := 2, slots := 5, locals := 40 } : Room) #[(.int z)] h0 (fun v h' => ∃ x, v = some (.ref x) ∧ Ext h0 h' ∧ Str Z h' x [z]) := by
  refine Con.mk (plainFor_of_name pn_1) hEL hE0 (fun x hx => by cases hx) ?_
  intro p e s m below meth c T0 hby hml hret hnm W0
  rw [(show entryFrame m #[(.int z)] 1 = mkF m 0 #[.val (.int z)] [] from by first | (simp [entryFrame, mkF, argsToLocals, Value.category]; done) | rfl)]
  refine W0.gets (host := "") (Or.inl (wd34 hw)) Via.refl (SG1.ext W0.old) (hb hby dc_jdk_42_method_139_code_0) ?_
  intro T27 W28
  show Go p e below s Z [] _ _ _ (T27.setTop (mkF m 3 #[.val (.int z)] [(.int G1)]))
  refine Go.by (fun t9_ q9_ => XS.ifNo W28.here W28.hx rfl (hb hby dc_jdk_42_method_139_code_3) rfl ((if0 _ _).trans (feq hG).1) q9_) ?_
  show Go p e below s Z [] _ _ _ (T27.setTop (mkF m 6 #[.val (.int z)] []))
  refine Go.by (fun t9_ q9_ => XS.iloadN W28.here W28.hx rfl (hb hby dc_jdk_42_method_139_code_6) rfl q9_) ?_
  show Go p e below s Z [] _ _ _ (T27.setTop (mkF m 7 #[.val (.int z)] [(.int z)]))
  refine W28.callSp (y := (⟨"java/lang/StringLatin1", "canEncode", "(C)Z"⟩ : MethodName)) (wd35 hw) (wd36 hw) (wd37 hw) (wd38 hw) (by decide) (c_canenc l Z a0 hw hEL h0 hE0 z hc1 hc2) all0 (by decide) (by decide) (k' := 0) (n' := 0) rfl rfl (by decide) (by decide) (by rw [hml]; rfl) (argsL := [(.int z)]) (rest := []) (lenOf pd_0 rfl) rfl rfl (Wt := 0) (Nat.le_of_eq rfl) (hb hby dc_jdk_42_method_139_code_7) ?_
  intro T29 W30
  show Go p e below s Z [] _ _ _ (T29.setTop (mkF m 10 #[.val (.int z)] [(.int (1 : Int32))]))
  refine Go.by (fun t9_ q9_ => XS.ifNo W30.here W30.hx rfl (hb hby dc_jdk_42_method_139_code_10) rfl ((if0 _ _).trans (feq (by decide)).1) q9_) ?_
  show Go p e below s Z [] _ _ _ (T29.setTop (mkF m 13 #[.val (.int z)] []))
  refine W30.new (wd39 hw) (wd40 hw) (wd32 hw) (hb hby dc_jdk_42_method_139_code_13) (k' := 1) (n' := 4) rfl rfl (by decide) (by decide) ?_
  intro T31 h32 x W33 E34 g_x z_x A_x D_x
  have F_value_x : Fld Z h32 x "java/lang/String" "value" "[B" .null := D_x (Or.inr (wd51 hw)) (ty := (.array .byte)) (by decide)
  have F_coder_x : Fld Z h32 x "java/lang/String" "coder" "B" (.int (0 : Int32)) := D_x (Or.inr (wd53 hw)) (ty := .byte) (by decide)
  show Go p e below s Z [] _ _ _ (T31.setTop (mkF m 16 #[.val (.int z)] [(.ref x)]))
  refine Go.by (fun t9_ q9_ => XS.dup W33.here W33.hx rfl (hb hby dc_jdk_42_method_139_code_16) rfl rfl q9_) ?_
  show Go p e below s Z [] _ _ _ (T31.setTop (mkF m 17 #[.val (.int z)] [(.ref x), (.ref x)]))
  refine Go.by (fun t9_ q9_ => XS.iloadN W33.here W33.hx rfl (hb hby dc_jdk_42_method_139_code_17) rfl q9_) ?_
  show Go p e below s Z [] _ _ _ (T31.setTop (mkF m 18 #[.val (.int z)] [(.int z), (.ref x), (.ref x)]))
  refine W33.callS (y := (⟨"java/lang/StringLatin1", "toBytes", "(C)[B"⟩ : MethodName)) (wd41 hw) (wd42 hw) (wd37 hw) (wd43 hw) (by decide) (c_tobytes l Z a0 hw hEL h32 W33.old z) all0 (by decide) (by decide) (k' := 2) (n' := 5) rfl rfl (by decide) (by decide) (by rw [hml]; rfl) (argsL := [(.int z)]) (rest := [(.ref x), (.ref x)]) (lenOf pd_1 rfl) rfl rfl (Wt := 2) (Nat.le_of_eq rfl) (hb hby dc_jdk_42_method_139_code_18) ?_
  intro v_ T35 h37 W36 hq_
  obtain ⟨t, kt, rfl, X1, A_t⟩ := hq_
  show Go p e below s Z [] _ _ _ (T35.setTop (mkF m 21 #[.val (.int z)] [(.ref t), (.ref x), (.ref x)]))
  refine Go.by (fun t9_ q9_ => XS.iconst W36.here W36.hx rfl (hb hby dc_jdk_42_method_139_code_21) q9_) ?_
  show Go p e below s Z [] _ _ _ (T35.setTop (mkF m 22 #[.val (.int z)] [(.int (0 : Int32)), (.ref t), (.ref x), (.ref x)]))
  have hat := A_t
  have hne : t ≠ x := Ne.symm (Exa.neArv (A_x.ext X1) hat (wd40 hw))
  refine W36.callI (y := (⟨"java/lang/String", "<init>", "([BB)V"⟩ : MethodName)) rfl (wd45 hw) (wd46 hw) (wd32 hw) (wd48 hw) (by decide) (a := x) (c_strbb l Z a0 hw hEL h37 W36.old x t (A_x.ext X1) (F_value_x.ext X1) (F_coder_x.ext X1) z_x) (allS (List.mem_of_getElem? (i := 0) rfl) all0) (by decide) (by decide) (k' := 2) (n' := 5) rfl rfl (by decide) (by decide) (by rw [hml]; rfl) (argsL := [(.ref t), (.int (0 : Int32))]) (rest := [(.ref x)]) (lenOf pd_2 rfl) rfl rfl (Wt := 1) (Nat.le_of_eq rfl) (hb hby dc_jdk_42_method_139_code_22) ?_
  intro v_ T38 h40 W39 hq_
  obtain ⟨rfl, K1, g1, g2, g3⟩ := hq_
  show Go p e below s Z [] _ _ _ (T38.setTop (mkF m 25 #[.val (.int z)] [(.ref x)]))
  have X41 : Ext h0 h37 := (Ext.trans' E34 X1)
  have X42 : Ext h0 h40 := (Ext.keep' X41 K1 (allS (Nat.le_of_eq g_x) all0))
  exact W39.retA (by decide) (by decide) hret rfl rfl (hb hby dc_jdk_42_method_139_code_25) ⟨x, rfl, X42, ⟨t, kt, 0, 1, _, g1, g2, g3, hat.keep K1 (ninS hne nin0), Or.inl ⟨rfl, rfl, rfl, fun c hc => by rcases List.mem_singleton.mp hc with rfl; exact hc2⟩, fun c hc => by rcases List.mem_singleton.mp hc with rfl; exact ⟨hc1, fun q => hc2 (by rw [Int32.lt_iff_toInt_lt] at q ⊢; have e1 : (65535 : Int32).toInt = 65535 := rfl; have e2 : (255 : Int32).toInt = 255 := rfl; omega)⟩⟩⟩
set_option maxRecDepth 65536 in
set_option maxHeartbeats 40000000 in
theorem c_acinit (l : Launch) (Z : State) (a0 : Array Value) (hw : ∀ d ∈ tables_1, d.before a0 Z = true) (hEL : EW Z a0 []) (h0 : Heap) (hE0 : Ext Z.heap h0) (x : Addr)  :
    Con l Z [] [] (⟨"java/util/AbstractCollection", "<init>", "()V"⟩ : MethodName) jdk_22_method_1_code 1 none [] ({ frames := 1, cells := 0, slots := 0, locals := 12 } : Room) #[(.ref x)] h0 (fun v h' => v = none ∧ h' = h0) := by
  refine Con.mk (plainFor_of_name pn_2) hEL hE0 (fun x hx => by cases hx) ?_
  intro p e s m below meth c T0 hby hml hret hnm W0
  rw [(show entryFrame m #[(.ref x)] 1 = mkF m 0 #[.val (.ref x)] [] from by first | (simp [entryFrame, mkF, argsToLocals, Value.category]; done) | rfl)]
  refine Go.by (fun t9_ q9_ => XS.aloadN W0.here W0.hx rfl (hb hby dc_jdk_22_method_1_code_0) rfl rfl q9_) ?_
  show Go p e below s Z [] _ _ _ (T0.setTop (mkF m 1 #[.val (.ref x)] [(.ref x)]))
  refine W0.initO (wd22 hw) (wd23 hw) (wd24 hw) (by rw [hml]; rfl) (hb hby dc_jdk_22_method_1_code_1) (by decide) (Wt := 0) (Nat.le_of_eq rfl) (by decide) ?_
  intro T43 W44
  show Go p e below s Z [] _ _ _ (T43.setTop (mkF m 4 #[.val (.ref x)] []))
  exact W44.retV (by decide) (by decide) hret (hb hby dc_jdk_22_method_1_code_4) ⟨rfl, rfl⟩
set_option maxRecDepth 65536 in
set_option maxHeartbeats 40000000 in
theorem c_ablinit (l : Launch) (Z : State) (a0 : Array Value) (hw : ∀ d ∈ tables_1, d.before a0 Z = true) (hEL : EW Z a0 []) (h0 : Heap) (hE0 : Ext Z.heap h0) (x : Addr) (E_x : Exa Z h0 x "java/util/ArrayList") (FM : Fld Z h0 x "java/util/AbstractList" "modCount" "I" (.int 0)) (FD : Fld Z h0 x "java/util/ArrayList" "elementData" "[Ljava/lang/Object;" .null) (z_x : Z.heap.size ≤ x) (FS : Fld Z h0 x "java/util/ArrayList" "size" "I" (.int 0)) :
    Con l Z [] [x] (⟨"java/util/AbstractList", "<init>", "()V"⟩ : MethodName) jdk_39_method_1_code 1 none [] ({ frames := 2, cells := 0, slots := 0, locals := 24 } : Room) #[(.ref x)] h0 (fun v h' => v = none ∧ Keep h0 h' [x] ∧ Fld Z h' x "java/util/AbstractList" "modCount" "I" (.int 0) ∧ Fld Z h' x "java/util/ArrayList" "elementData" "[Ljava/lang/Object;" .null ∧ Fld Z h' x "java/util/ArrayList" "size" "I" (.int 0)) := by
  refine Con.mk (plainFor_of_name pn_3) hEL hE0 (allS E_x.lt all0) ?_
  intro p e s m below meth c T0 hby hml hret hnm W0
  rw [(show entryFrame m #[(.ref x)] 1 = mkF m 0 #[.val (.ref x)] [] from by first | (simp [entryFrame, mkF, argsToLocals, Value.category]; done) | rfl)]
  refine Go.by (fun t9_ q9_ => XS.aloadN W0.here W0.hx rfl (hb hby dc_jdk_39_method_1_code_0) rfl rfl q9_) ?_
  show Go p e below s Z [] _ _ _ (T0.setTop (mkF m 1 #[.val (.ref x)] [(.ref x)]))
  refine W0.callIp (y := (⟨"java/util/AbstractCollection", "<init>", "()V"⟩ : MethodName)) rfl (wd16 hw) (wd17 hw) (wd20 hw) (wd21 hw) (by decide) (a := x) (c_acinit l Z a0 hw hEL h0 hE0 x) all0 (by decide) (by decide) (k' := 0) (n' := 0) rfl rfl (by decide) (by decide) (by rw [hml]; rfl) (argsL := []) (rest := []) (lenOf pd_3 rfl) rfl rfl (Wt := 0) (Nat.le_of_eq rfl) (hb hby dc_jdk_39_method_1_code_1) ?_
  intro T45 W46
  show Go p e below s Z [] _ _ _ (T45.setTop (mkF m 4 #[.val (.ref x)] []))
  refine Go.by (fun t9_ q9_ => XS.aloadN W46.here W46.hx rfl (hb hby dc_jdk_39_method_1_code_4) rfl rfl q9_) ?_
  show Go p e below s Z [] _ _ _ (T45.setTop (mkF m 5 #[.val (.ref x)] [(.ref x)]))
  refine Go.by (fun t9_ q9_ => XS.iconst W46.here W46.hx rfl (hb hby dc_jdk_39_method_1_code_5) q9_) ?_
  show Go p e below s Z [] _ _ _ (T45.setTop (mkF m 6 #[.val (.ref x)] [(.int (0 : Int32)), (.ref x)]))
  refine W46.putf (host := "") (Or.inl (wd25 hw)) Via.refl FM E_x (Or.inl (wd26 hw)) (wd5 hw) (ty := .int) (by decide) rfl rfl z_x (List.mem_of_getElem? (i := 0) rfl) (hb hby dc_jdk_39_method_1_code_6) ?_
  intro T47 h48 W49 Wr50
  have F51 : Fld Z h48 x "java/util/AbstractList" "modCount" "I" (.int (0 : Int32)) := FM.same Wr50
  have F52 : Fld Z h48 x "java/util/ArrayList" "elementData" "[Ljava/lang/Object;" .null := FD.other Wr50 (Or.inr (slot_ne (Or.inl (wd29 hw)) (Or.inl (wd26 hw)) (by decide) (t := (.array (.object "java/lang/Object"))) (t' := .int) (by decide) (by decide)))
  have F53 : Fld Z h48 x "java/util/ArrayList" "size" "I" (.int 0) := FS.other Wr50 (Or.inr (slot_ne (Or.inl (wd62 hw)) (Or.inl (wd26 hw)) (by decide) (t := .int) (t' := .int) (by decide) (by decide)))
  have A54 : Exa Z h48 x "java/util/ArrayList" := E_x.wr Wr50
  show Go p e below s Z [] _ _ _ (T47.setTop (mkF m 9 #[.val (.ref x)] []))
  exact W49.retV (by decide) (by decide) hret (hb hby dc_jdk_39_method_1_code_9) ⟨rfl, ((Keep.refl h0 [x]).wr Wr50 (Or.inl (List.mem_of_getElem? (i := 0) rfl))), F51, F52, F53⟩
set_option maxRecDepth 65536 in
set_option maxHeartbeats 40000000 in
theorem c_alinit (l : Launch) (Z : State) (a0 : Array Value) (hw : ∀ d ∈ tables_1, d.before a0 Z = true) (hEL : EW Z a0 []) (h0 : Heap) (hE0 : Ext Z.heap h0) (x dd : Addr) (E_x : Exa Z h0 x "java/util/ArrayList") (FM : Fld Z h0 x "java/util/AbstractList" "modCount" "I" (.int 0)) (FD : Fld Z h0 x "java/util/ArrayList" "elementData" "[Ljava/lang/Object;" .null) (z_x : Z.heap.size ≤ x) (FS : Fld Z h0 x "java/util/ArrayList" "size" "I" (.int 0)) (SD : Sta Z Z.heap "java/util/ArrayList" "DEFAULTCAPACITY_EMPTY_ELEMENTDATA" "[Ljava/lang/Object;" (.ref dd)) :
    Con l Z [] [x] (⟨"java/util/ArrayList", "<init>", "()V"⟩ : MethodName) jdk_38_method_2_code 1 none [] ({ frames := 3, cells := 0, slots := 0, locals := 36 } : Room) #[(.ref x)] h0 (fun v h' => v = none ∧ Keep h0 h' [x] ∧ Exa Z h' x "java/util/ArrayList" ∧ Fld Z h' x "java/util/AbstractList" "modCount" "I" (.int 0) ∧ Fld Z h' x "java/util/ArrayList" "elementData" "[Ljava/lang/Object;" (.ref dd) ∧ Fld Z h' x "java/util/ArrayList" "size" "I" (.int 0)) := by
  refine Con.mk (plainFor_of_name pn_4) hEL hE0 (allS E_x.lt all0) ?_
  intro p e s m below meth c T0 hby hml hret hnm W0
  rw [(show entryFrame m #[(.ref x)] 1 = mkF m 0 #[.val (.ref x)] [] from by first | (simp [entryFrame, mkF, argsToLocals, Value.category]; done) | rfl)]
  refine Go.by (fun t9_ q9_ => XS.aloadN W0.here W0.hx rfl (hb hby dc_jdk_38_method_2_code_0) rfl rfl q9_) ?_
  show Go p e below s Z [] _ _ _ (T0.setTop (mkF m 1 #[.val (.ref x)] [(.ref x)]))
  refine W0.callI (y := (⟨"java/util/AbstractList", "<init>", "()V"⟩ : MethodName)) rfl (wd10 hw) (wd11 hw) (wd14 hw) (wd15 hw) (by decide) (a := x) (c_ablinit l Z a0 hw hEL h0 hE0 x E_x FM FD z_x FS) (allS (List.mem_of_getElem? (i := 0) rfl) all0) (by decide) (by decide) (k' := 0) (n' := 0) rfl rfl (by decide) (by decide) (by rw [hml]; rfl) (argsL := []) (rest := []) (lenOf pd_3 rfl) rfl rfl (Wt := 0) (Nat.le_of_eq rfl) (hb hby dc_jdk_38_method_2_code_1) ?_
  intro v_ T55 h57 W56 hq_
  obtain ⟨rfl, K1, G1, G2, G3⟩ := hq_
  show Go p e below s Z [] _ _ _ (T55.setTop (mkF m 4 #[.val (.ref x)] []))
  refine Go.by (fun t9_ q9_ => XS.aloadN W56.here W56.hx rfl (hb hby dc_jdk_38_method_2_code_4) rfl rfl q9_) ?_
  show Go p e below s Z [] _ _ _ (T55.setTop (mkF m 5 #[.val (.ref x)] [(.ref x)]))
  refine W56.gets (host := "") (Or.inl (wd27 hw)) Via.refl (SD.ext W56.old) (hb hby dc_jdk_38_method_2_code_5) ?_
  intro T58 W59
  show Go p e below s Z [] _ _ _ (T58.setTop (mkF m 8 #[.val (.ref x)] [(.ref dd), (.ref x)]))
  refine W59.putf (host := "") (Or.inl (wd28 hw)) Via.refl G2 (E_x.keep K1) (Or.inl (wd29 hw)) (wd5 hw) (ty := (.array (.object "java/lang/Object"))) (by decide) rfl rfl z_x (List.mem_of_getElem? (i := 0) rfl) (hb hby dc_jdk_38_method_2_code_8) ?_
  intro T60 h61 W62 Wr63
  have F64 : Fld Z h61 x "java/util/ArrayList" "elementData" "[Ljava/lang/Object;" (.ref dd) := G2.same Wr63
  have F65 : Fld Z h61 x "java/util/AbstractList" "modCount" "I" (.int 0) := G1.other Wr63 (Or.inr (slot_ne (Or.inl (wd26 hw)) (Or.inl (wd29 hw)) (by decide) (t := .int) (t' := (.array (.object "java/lang/Object"))) (by decide) (by decide)))
  have F66 : Fld Z h61 x "java/util/ArrayList" "size" "I" (.int 0) := G3.other Wr63 (Or.inr (slot_ne (Or.inl (wd62 hw)) (Or.inl (wd29 hw)) (by decide) (t := .int) (t' := (.array (.object "java/lang/Object"))) (by decide) (by decide)))
  have A67 : Exa Z h61 x "java/util/ArrayList" := (E_x.keep K1).wr Wr63
  show Go p e below s Z [] _ _ _ (T60.setTop (mkF m 11 #[.val (.ref x)] []))
  exact W62.retV (by decide) (by decide) hret (hb hby dc_jdk_38_method_2_code_11) ⟨rfl, (((Keep.refl h0 [x]).trans K1 (allS (Or.inl (List.mem_of_getElem? (i := 0) rfl)) all0)).wr Wr63 (Or.inl (List.mem_of_getElem? (i := 0) rfl))), A67, F65, F64, F66⟩
set_option maxRecDepth 65536 in
set_option maxHeartbeats 40000000 in
theorem c_max (l : Launch) (Z : State) (a0 : Array Value) (hw : ∀ d ∈ tables_1, d.before a0 Z = true) (hEL : EW Z a0 []) (h0 : Heap) (hE0 : Ext Z.heap h0) (a b : Int32)  :
    Con l Z [] [] (⟨"java/lang/Math", "max", "(II)I"⟩ : MethodName) jdk_29_method_65_code 2 (some .int) [] ({ frames := 0, cells := 0, slots := 0, locals := 0 } : Room) #[(.int a), (.int b)] h0 (fun v h' => v = (some (.int (if a < b then b else a))) ∧ h' = h0) := by
  refine Con.mk pf_Math_max hEL hE0 (fun x hx => by cases hx) ?_
  intro p e s m below meth c T0 hby hml hret hnm W0
  rw [(show entryFrame m #[(.int a), (.int b)] 2 = mkF m 0 #[.val (.int a), .val (.int b)] [] from by first | (simp [entryFrame, mkF, argsToLocals, Value.category]; done) | rfl)]
  refine Go.by (fun t9_ q9_ => XS.iloadN W0.here W0.hx rfl (hb hby dc_jdk_29_method_65_code_0) rfl q9_) ?_
  show Go p e below s Z [] _ _ _ (T0.setTop (mkF m 1 #[.val (.int a), .val (.int b)] [(.int a)]))
  refine Go.by (fun t9_ q9_ => XS.iloadN W0.here W0.hx rfl (hb hby dc_jdk_29_method_65_code_1) rfl q9_) ?_
  show Go p e below s Z [] _ _ _ (T0.setTop (mkF m 2 #[.val (.int a), .val (.int b)] [(.int b), (.int a)]))
  by_cases hm0 : a < b
  · refine Go.by (fun t9_ q9_ => XS.icmpYes W0.here W0.hx rfl (pc0 := 2) (pc' := 9) rfl (hb hby dc_jdk_29_method_65_code_2) rfl (tlt hm0).1 (by decide) (by decide) q9_) ?_
    show Go p e below s Z [] _ _ _ (T0.setTop (mkF m 9 #[.val (.int a), .val (.int b)] []))
    refine Go.by (fun t9_ q9_ => XS.iloadN W0.here W0.hx rfl (hb hby dc_jdk_29_method_65_code_9) rfl q9_) ?_
    show Go p e below s Z [] _ _ _ (T0.setTop (mkF m 10 #[.val (.int a), .val (.int b)] [(.int b)]))
    exact W0.retI (by decide) (by decide) hret (hb hby dc_jdk_29_method_65_code_10) ⟨by simp only [if_pos hm0], rfl⟩
  · refine Go.by (fun t9_ q9_ => XS.icmpNo W0.here W0.hx rfl (hb hby dc_jdk_29_method_65_code_2) rfl (flt hm0).1 q9_) ?_
    show Go p e below s Z [] _ _ _ (T0.setTop (mkF m 5 #[.val (.int a), .val (.int b)] []))
    refine Go.by (fun t9_ q9_ => XS.iloadN W0.here W0.hx rfl (hb hby dc_jdk_29_method_65_code_5) rfl q9_) ?_
    show Go p e below s Z [] _ _ _ (T0.setTop (mkF m 6 #[.val (.int a), .val (.int b)] [(.int a)]))
    refine Go.by (fun t9_ q9_ => XS.goto W0.here W0.hx rfl (pc0 := 6) (pc' := 10) rfl (hb hby dc_jdk_29_method_65_code_6) (by decide) (by decide) q9_) ?_
    show Go p e below s Z [] _ _ _ (T0.setTop (mkF m 10 #[.val (.int a), .val (.int b)] [(.int a)]))
    exact W0.retI (by decide) (by decide) hret (hb hby dc_jdk_29_method_65_code_10) ⟨by simp only [if_neg hm0], rfl⟩
set_option maxRecDepth 65536 in
set_option maxHeartbeats 40000000 in
theorem c_grow1 (l : Launch) (Z : State) (a0 : Array Value) (hw : ∀ d ∈ tables_1, d.before a0 Z = true) (hEL : EW Z a0 []) (h0 : Heap) (hE0 : Ext Z.heap h0) (x dd : Addr) (kd : ClassId) (mc : Int32) (E_x : Exa Z h0 x "java/util/ArrayList") (FM : Fld Z h0 x "java/util/AbstractList" "modCount" "I" (.int mc)) (FD : Fld Z h0 x "java/util/ArrayList" "elementData" "[Ljava/lang/Object;" (.ref dd)) (FS : Fld Z h0 x "java/util/ArrayList" "size" "I" (.int 0)) (z_x : Z.heap.size ≤ x) (SD : Sta Z Z.heap "java/util/ArrayList" "DEFAULTCAPACITY_EMPTY_ELEMENTDATA" "[Ljava/lang/Object;" (.ref dd)) (DA : Arv Z Z.heap dd kd (.object "java/lang/Object") 0 [] .null) :
    Con l Z [] [x] (⟨"java/util/ArrayList", "grow", "(I)[Ljava/lang/Object;"⟩ : MethodName) jdk_38_method_6_code 4 (some (.array (.object "java/lang/Object"))) [] ({ frames := 1, cells := 1, slots := 10, locals := 16 } : Room) #[(.ref x), (.int (1 : Int32))] h0 (fun v h' => ∃ r kr, v = some (.ref r) ∧ Keep h0 h' [x] ∧ h0.size ≤ r ∧ Exa Z h' r "[Ljava/lang/Object;" ∧ Arv Z h' r kr (.object "java/lang/Object") 10 [] .null ∧ Ovr Z kr "java/lang/Object" ∧ Exa Z h' x "java/util/ArrayList" ∧ Fld Z h' x "java/util/ArrayList" "size" "I" (.int 0)) := by
  refine Con.mk (plainFor_of_name pn_4) hEL hE0 (allS E_x.lt all0) ?_
  intro p e s m below meth c T0 hby hml hret hnm W0
  rw [(show entryFrame m #[(.ref x), (.int (1 : Int32))] 4 = mkF m 0 #[.val (.ref x), .val (.int (1 : Int32)), .unset, .unset] [] from by first | (simp [entryFrame, mkF, argsToLocals, Value.category]; done) | rfl)]
  refine Go.by (fun t9_ q9_ => XS.aloadN W0.here W0.hx rfl (hb hby dc_jdk_38_method_6_code_0) rfl rfl q9_) ?_
  show Go p e below s Z [] _ _ _ (T0.setTop (mkF m 1 #[.val (.ref x), .val (.int (1 : Int32)), .unset, .unset] [(.ref x)]))
  refine W0.getf (host := "") (Or.inl (wd28 hw)) Via.refl FD (hb hby dc_jdk_38_method_6_code_1) ?_
  intro T68 W69
  show Go p e below s Z [] _ _ _ (T68.setTop (mkF m 4 #[.val (.ref x), .val (.int (1 : Int32)), .unset, .unset] [(.ref dd)]))
  refine W69.alen (DA.ext W69.old) (hb hby dc_jdk_38_method_6_code_4) ?_
  show Go p e below s Z [] _ _ _ (T68.setTop (mkF m 5 #[.val (.ref x), .val (.int (1 : Int32)), .unset, .unset] [(.int (0 : Int32))]))
  refine Go.by (fun t9_ q9_ => XS.istoreN W69.here W69.hx rfl (hb hby dc_jdk_38_method_6_code_5) rfl (l' := #[.val (.ref x), .val (.int (1 : Int32)), .val (.int (0 : Int32)), .unset]) rfl q9_) ?_
  show Go p e below s Z [] _ _ _ (T68.setTop (mkF m 6 #[.val (.ref x), .val (.int (1 : Int32)), .val (.int (0 : Int32)), .unset] []))
  refine Go.by (fun t9_ q9_ => XS.iloadN W69.here W69.hx rfl (hb hby dc_jdk_38_method_6_code_6) rfl q9_) ?_
  show Go p e below s Z [] _ _ _ (T68.setTop (mkF m 7 #[.val (.ref x), .val (.int (1 : Int32)), .val (.int (0 : Int32)), .unset] [(.int (0 : Int32))]))
  refine Go.by (fun t9_ q9_ => XS.ifNo W69.here W69.hx rfl (hb hby dc_jdk_38_method_6_code_7) rfl ((if0 _ _).trans (flt (by decide)).2.2.1) q9_) ?_
  show Go p e below s Z [] _ _ _ (T68.setTop (mkF m 10 #[.val (.ref x), .val (.int (1 : Int32)), .val (.int (0 : Int32)), .unset] []))
  refine Go.by (fun t9_ q9_ => XS.aloadN W69.here W69.hx rfl (hb hby dc_jdk_38_method_6_code_10) rfl rfl q9_) ?_
  show Go p e below s Z [] _ _ _ (T68.setTop (mkF m 11 #[.val (.ref x), .val (.int (1 : Int32)), .val (.int (0 : Int32)), .unset] [(.ref x)]))
  refine W69.getf (host := "") (Or.inl (wd28 hw)) Via.refl FD (hb hby dc_jdk_38_method_6_code_11) ?_
  intro T70 W71
  show Go p e below s Z [] _ _ _ (T70.setTop (mkF m 14 #[.val (.ref x), .val (.int (1 : Int32)), .val (.int (0 : Int32)), .unset] [(.ref dd)]))
  refine W71.gets (host := "") (Or.inl (wd27 hw)) Via.refl (SD.ext W71.old) (hb hby dc_jdk_38_method_6_code_14) ?_
  intro T72 W73
  show Go p e below s Z [] _ _ _ (T72.setTop (mkF m 17 #[.val (.ref x), .val (.int (1 : Int32)), .val (.int (0 : Int32)), .unset] [(.ref dd), (.ref dd)]))
  refine Go.by (fun t9_ q9_ => acmpW W73 (g := (mkF m 17 #[.val (.ref x), .val (.int (1 : Int32)), .val (.int (0 : Int32)), .unset] [(.ref dd), (.ref dd)])) rfl rfl rfl (pc0 := 17) (pc' := 45) (same := true) rfl (hb hby dc_jdk_38_method_6_code_17) rfl (decide_eq_true rfl) (by decide) (by decide) q9_) ?_
  show Go p e below s Z [] _ _ _ (T72.setTop (mkF m 45 #[.val (.ref x), .val (.int (1 : Int32)), .val (.int (0 : Int32)), .unset] []))
  refine Go.by (fun t9_ q9_ => XS.aloadN W73.here W73.hx rfl (hb hby dc_jdk_38_method_6_code_45) rfl rfl q9_) ?_
  show Go p e below s Z [] _ _ _ (T72.setTop (mkF m 46 #[.val (.ref x), .val (.int (1 : Int32)), .val (.int (0 : Int32)), .unset] [(.ref x)]))
  refine Go.by (fun t9_ q9_ => XS.bipush W73.here W73.hx rfl (hb hby dc_jdk_38_method_6_code_46) q9_) ?_
  show Go p e below s Z [] _ _ _ (T72.setTop (mkF m 48 #[.val (.ref x), .val (.int (1 : Int32)), .val (.int (0 : Int32)), .unset] [(.int (10 : Int32)), (.ref x)]))
  refine Go.by (fun t9_ q9_ => XS.iloadN W73.here W73.hx rfl (hb hby dc_jdk_38_method_6_code_48) rfl q9_) ?_
  show Go p e below s Z [] _ _ _ (T72.setTop (mkF m 49 #[.val (.ref x), .val (.int (1 : Int32)), .val (.int (0 : Int32)), .unset] [(.int (1 : Int32)), (.int (10 : Int32)), (.ref x)]))
  refine W73.callSp (y := (⟨"java/lang/Math", "max", "(II)I"⟩ : MethodName)) (wd78 hw) (wd79 hw) (wd80 hw) (wd81 hw) (by decide) (c_max l Z a0 hw hEL h0 hE0 10 1) all0 (by decide) (by decide) (k' := 0) (n' := 0) rfl rfl (by decide) (by decide) (by rw [hml]; rfl) (argsL := [(.int (10 : Int32)), (.int (1 : Int32))]) (rest := [(.ref x)]) (lenOf pd_4 rfl) rfl rfl (Wt := 1) (Nat.le_of_eq rfl) (hb hby dc_jdk_38_method_6_code_49) ?_
  intro T74 W75
  show Go p e below s Z [] _ _ _ (T74.setTop (mkF m 52 #[.val (.ref x), .val (.int (1 : Int32)), .val (.int (0 : Int32)), .unset] [(.int (10 : Int32)), (.ref x)]))
  refine W75.newr (wd82 hw) (wd83 hw) (hb hby dc_jdk_38_method_6_code_52) (by decide) (cap := 10) (by decide) (by decide) (k' := 1) (n' := 10) rfl rfl (by decide) (by decide) (ad := "[Ljava/lang/Object;") rfl ?_
  intro T76 h77 r k_r W78 E79 g_r z_r A_r V_r O_r
  show Go p e below s Z [] _ _ _ (T76.setTop (mkF m 55 #[.val (.ref x), .val (.int (1 : Int32)), .val (.int (0 : Int32)), .unset] [(.ref r), (.ref x)]))
  refine Go.by (fun t9_ q9_ => XS.dupX1 W78.here W78.hx rfl (hb hby dc_jdk_38_method_6_code_55) rfl rfl rfl q9_) ?_
  show Go p e below s Z [] _ _ _ (T76.setTop (mkF m 56 #[.val (.ref x), .val (.int (1 : Int32)), .val (.int (0 : Int32)), .unset] [(.ref r), (.ref x), (.ref r)]))
  refine W78.putf (host := "") (Or.inl (wd28 hw)) Via.refl (FD.ext E79) (E_x.ext E79) (Or.inl (wd29 hw)) (wd5 hw) (ty := (.array (.object "java/lang/Object"))) (by decide) rfl rfl z_x (List.mem_of_getElem? (i := 1) rfl) (hb hby dc_jdk_38_method_6_code_56) ?_
  intro T80 h81 W82 Wr83
  have F84 : Fld Z h81 x "java/util/ArrayList" "elementData" "[Ljava/lang/Object;" (.ref r) := (FD.ext E79).same Wr83
  have F85 : Fld Z h81 x "java/util/AbstractList" "modCount" "I" (.int mc) := (FM.ext E79).other Wr83 (Or.inr (slot_ne (Or.inl (wd26 hw)) (Or.inl (wd29 hw)) (by decide) (t := .int) (t' := (.array (.object "java/lang/Object"))) (by decide) (by decide)))
  have F86 : Fld Z h81 x "java/util/ArrayList" "size" "I" (.int 0) := (FS.ext E79).other Wr83 (Or.inr (slot_ne (Or.inl (wd62 hw)) (Or.inl (wd29 hw)) (by decide) (t := .int) (t' := (.array (.object "java/lang/Object"))) (by decide) (by decide)))
  have A87 : Exa Z h81 x "java/util/ArrayList" := (E_x.ext E79).wr Wr83
  show Go p e below s Z [] _ _ _ (T80.setTop (mkF m 59 #[.val (.ref x), .val (.int (1 : Int32)), .val (.int (0 : Int32)), .unset] [(.ref r)]))
  exact W82.retA (by decide) (by decide) hret rfl rfl (hb hby dc_jdk_38_method_6_code_59) ⟨r, k_r, rfl, (((Keep.refl h0 [x]).ext E79).wr Wr83 (Or.inl (List.mem_of_getElem? (i := 0) rfl))), Nat.le_of_eq g_r, (A_r.wr Wr83), (V_r.other Wr83 (Ne.symm (Nat.ne_of_lt (Nat.lt_of_lt_of_le E_x.lt (Nat.le_of_eq g_r))))), O_r, A87, F86⟩
set_option maxRecDepth 65536 in
set_option maxHeartbeats 40000000 in
theorem c_grow0 (l : Launch) (Z : State) (a0 : Array Value) (hw : ∀ d ∈ tables_1, d.before a0 Z = true) (hEL : EW Z a0 []) (h0 : Heap) (hE0 : Ext Z.heap h0) (x dd : Addr) (kd : ClassId) (mc : Int32) (E_x : Exa Z h0 x "java/util/ArrayList") (FM : Fld Z h0 x "java/util/AbstractList" "modCount" "I" (.int mc)) (FD : Fld Z h0 x "java/util/ArrayList" "elementData" "[Ljava/lang/Object;" (.ref dd)) (FS : Fld Z h0 x "java/util/ArrayList" "size" "I" (.int 0)) (z_x : Z.heap.size ≤ x) (SD : Sta Z Z.heap "java/util/ArrayList" "DEFAULTCAPACITY_EMPTY_ELEMENTDATA" "[Ljava/lang/Object;" (.ref dd)) (DA : Arv Z Z.heap dd kd (.object "java/lang/Object") 0 [] .null) :
    Con l Z [] [x] (⟨"java/util/ArrayList", "grow", "()[Ljava/lang/Object;"⟩ : MethodName) jdk_38_method_7_code 1 (some (.array (.object "java/lang/Object"))) [] ({ frames := 2, cells := 1, slots := 10, locals := 32 } : Room) #[(.ref x)] h0 (fun v h' => ∃ r kr, v = some (.ref r) ∧ Keep h0 h' [x] ∧ h0.size ≤ r ∧ Exa Z h' r "[Ljava/lang/Object;" ∧ Arv Z h' r kr (.object "java/lang/Object") 10 [] .null ∧ Ovr Z kr "java/lang/Object" ∧ Exa Z h' x "java/util/ArrayList" ∧ Fld Z h' x "java/util/ArrayList" "size" "I" (.int 0)) := by
  refine Con.mk (plainFor_of_name pn_4) hEL hE0 (allS E_x.lt all0) ?_
  intro p e s m below meth c T0 hby hml hret hnm W0
  rw [(show entryFrame m #[(.ref x)] 1 = mkF m 0 #[.val (.ref x)] [] from by first | (simp [entryFrame, mkF, argsToLocals, Value.category]; done) | rfl)]
  refine Go.by (fun t9_ q9_ => XS.aloadN W0.here W0.hx rfl (hb hby dc_jdk_38_method_7_code_0) rfl rfl q9_) ?_
  show Go p e below s Z [] _ _ _ (T0.setTop (mkF m 1 #[.val (.ref x)] [(.ref x)]))
  refine Go.by (fun t9_ q9_ => XS.aloadN W0.here W0.hx rfl (hb hby dc_jdk_38_method_7_code_1) rfl rfl q9_) ?_
  show Go p e below s Z [] _ _ _ (T0.setTop (mkF m 2 #[.val (.ref x)] [(.ref x), (.ref x)]))
  refine W0.getf (host := "") (Or.inl (wd61 hw)) Via.refl FS (hb hby dc_jdk_38_method_7_code_2) ?_
  intro T88 W89
  show Go p e below s Z [] _ _ _ (T88.setTop (mkF m 5 #[.val (.ref x)] [(.int (0 : Int32)), (.ref x)]))
  refine Go.by (fun t9_ q9_ => XS.iconst W89.here W89.hx rfl (hb hby dc_jdk_38_method_7_code_5) q9_) ?_
  show Go p e below s Z [] _ _ _ (T88.setTop (mkF m 6 #[.val (.ref x)] [(.int (1 : Int32)), (.int (0 : Int32)), (.ref x)]))
  refine Go.by (fun t9_ q9_ => XS.iadd W89.here W89.hx rfl (hb hby dc_jdk_38_method_7_code_6) rfl q9_) ?_
  show Go p e below s Z [] _ _ _ (T88.setTop (mkF m 7 #[.val (.ref x)] [(.int ((0 : Int32) + (1 : Int32))), (.ref x)]))
  show Go p e below s Z [] _ _ _ (T88.setTop (mkF m 7 #[.val (.ref x)] [(.int (1 : Int32)), (.ref x)]))
  refine W89.callP (y := (⟨"java/util/ArrayList", "grow", "(I)[Ljava/lang/Object;"⟩ : MethodName)) (wd73 hw) (wd74 hw) (wd76 hw) (wd75 hw) (wd6 hw) (wd77 hw) (by decide) E_x (a := x) (c_grow1 l Z a0 hw hEL h0 hE0 x dd kd mc E_x FM FD FS z_x SD DA) (allS (List.mem_of_getElem? (i := 0) rfl) all0) (by decide) (by decide) (k' := 1) (n' := 10) rfl rfl (by decide) (by decide) (by rw [hml]; rfl) (argsL := [(.int (1 : Int32))]) (rest := []) (lenOf pd_5 rfl) rfl rfl (Wt := 0) (Nat.le_of_eq rfl) (hb hby dc_jdk_38_method_7_code_7) ?_
  intro v_ T90 h92 W91 hq_
  obtain ⟨r, kr, rfl, q1, q2, q3, q4, q5, q6, q7⟩ := hq_
  show Go p e below s Z [] _ _ _ (T90.setTop (mkF m 10 #[.val (.ref x)] [(.ref r)]))
  exact W91.retA (by decide) (by decide) hret rfl rfl (hb hby dc_jdk_38_method_7_code_10) ⟨r, kr, rfl, q1, q2, q3, q4, q5, q6, q7⟩
set_option maxRecDepth 65536 in
set_option maxHeartbeats 40000000 in
theorem c_add3 (l : Launch) (Z : State) (a0 : Array Value) (hw : ∀ d ∈ tables_1, d.before a0 Z = true) (hEL : EW Z a0 []) (h0 : Heap) (hE0 : Ext Z.heap h0) (x dd : Addr) (kd : ClassId) (mc : Int32) (q : Addr) (E_x : Exa Z h0 x "java/util/ArrayList") (FM : Fld Z h0 x "java/util/AbstractList" "modCount" "I" (.int mc)) (FD : Fld Z h0 x "java/util/ArrayList" "elementData" "[Ljava/lang/Object;" (.ref dd)) (FS : Fld Z h0 x "java/util/ArrayList" "size" "I" (.int 0)) (z_x : Z.heap.size ≤ x) (SD : Sta Z Z.heap "java/util/ArrayList" "DEFAULTCAPACITY_EMPTY_ELEMENTDATA" "[Ljava/lang/Object;" (.ref dd)) (DA : Arv Z Z.heap dd kd (.object "java/lang/Object") 0 [] .null) (E_q : Exa Z h0 q "java/lang/String") :
    Con l Z [] [x] (⟨"java/util/ArrayList", "add", "(Ljava/lang/Object;[Ljava/lang/Object;I)V"⟩ : MethodName) jdk_38_method_24_code 4 none [] ({ frames := 3, cells := 1, slots := 10, locals := 45 } : Room) #[(.ref x), (.ref q), (.ref dd), (.int (0 : Int32))] h0 (fun v h' => v = none ∧ Keep h0 h' [x]) := by
  refine Con.mk (plainFor_of_name pn_4) hEL hE0 (allS E_x.lt all0) ?_
  intro p e s m below meth c T0 hby hml hret hnm W0
  rw [(show entryFrame m #[(.ref x), (.ref q), (.ref dd), (.int (0 : Int32))] 4 = mkF m 0 #[.val (.ref x), .val (.ref q), .val (.ref dd), .val (.int (0 : Int32))] [] from by first | (simp [entryFrame, mkF, argsToLocals, Value.category]; done) | rfl)]
  refine Go.by (fun t9_ q9_ => XS.iloadN W0.here W0.hx rfl (hb hby dc_jdk_38_method_24_code_0) rfl q9_) ?_
  show Go p e below s Z [] _ _ _ (T0.setTop (mkF m 1 #[.val (.ref x), .val (.ref q), .val (.ref dd), .val (.int (0 : Int32))] [(.int (0 : Int32))]))
  refine Go.by (fun t9_ q9_ => XS.aloadN W0.here W0.hx rfl (hb hby dc_jdk_38_method_24_code_1) rfl rfl q9_) ?_
  show Go p e below s Z [] _ _ _ (T0.setTop (mkF m 2 #[.val (.ref x), .val (.ref q), .val (.ref dd), .val (.int (0 : Int32))] [(.ref dd), (.int (0 : Int32))]))
  refine W0.alen (DA.ext W0.old) (hb hby dc_jdk_38_method_24_code_2) ?_
  show Go p e below s Z [] _ _ _ (T0.setTop (mkF m 3 #[.val (.ref x), .val (.ref q), .val (.ref dd), .val (.int (0 : Int32))] [(.int (0 : Int32)), (.int (0 : Int32))]))
  refine Go.by (fun t9_ q9_ => XS.icmpNo W0.here W0.hx rfl (hb hby dc_jdk_38_method_24_code_3) rfl (teq rfl).2 q9_) ?_
  show Go p e below s Z [] _ _ _ (T0.setTop (mkF m 6 #[.val (.ref x), .val (.ref q), .val (.ref dd), .val (.int (0 : Int32))] []))
  refine Go.by (fun t9_ q9_ => XS.aloadN W0.here W0.hx rfl (hb hby dc_jdk_38_method_24_code_6) rfl rfl q9_) ?_
  show Go p e below s Z [] _ _ _ (T0.setTop (mkF m 7 #[.val (.ref x), .val (.ref q), .val (.ref dd), .val (.int (0 : Int32))] [(.ref x)]))
  refine W0.callP (y := (⟨"java/util/ArrayList", "grow", "()[Ljava/lang/Object;"⟩ : MethodName)) (wd68 hw) (wd69 hw) (wd71 hw) (wd70 hw) (wd6 hw) (wd72 hw) (by decide) E_x (a := x) (c_grow0 l Z a0 hw hEL h0 hE0 x dd kd mc E_x FM FD FS z_x SD DA) (allS (List.mem_of_getElem? (i := 0) rfl) all0) (by decide) (by decide) (k' := 1) (n' := 10) rfl rfl (by decide) (by decide) (by rw [hml]; rfl) (argsL := []) (rest := []) (lenOf pd_6 rfl) rfl rfl (Wt := 0) (Nat.le_of_eq rfl) (hb hby dc_jdk_38_method_24_code_7) ?_
  intro v_ T93 h95 W94 hq_
  obtain ⟨r, kr, rfl, q1, q2, q3, q4, q5, q6, q7⟩ := hq_
  show Go p e below s Z [] _ _ _ (T93.setTop (mkF m 10 #[.val (.ref x), .val (.ref q), .val (.ref dd), .val (.int (0 : Int32))] [(.ref r)]))
  have W96 := W94.safeE q3 (by decide) (by decide)
  refine Go.by (fun t9_ q9_ => XS.astoreN W96.here W96.hx rfl (hb hby dc_jdk_38_method_24_code_10) rfl rfl (l' := #[.val (.ref x), .val (.ref q), .val (.ref r), .val (.int (0 : Int32))]) rfl q9_) ?_
  show Go p e below s Z [] _ _ _ (T93.setTop (mkF m 11 #[.val (.ref x), .val (.ref q), .val (.ref r), .val (.int (0 : Int32))] []))
  refine Go.by (fun t9_ q9_ => XS.aloadN W96.here W96.hx rfl (hb hby dc_jdk_38_method_24_code_11) rfl rfl q9_) ?_
  show Go p e below s Z [] _ _ _ (T93.setTop (mkF m 12 #[.val (.ref x), .val (.ref q), .val (.ref r), .val (.int (0 : Int32))] [(.ref r)]))
  refine Go.by (fun t9_ q9_ => XS.iloadN W96.here W96.hx rfl (hb hby dc_jdk_38_method_24_code_12) rfl q9_) ?_
  show Go p e below s Z [] _ _ _ (T93.setTop (mkF m 13 #[.val (.ref x), .val (.ref q), .val (.ref r), .val (.int (0 : Int32))] [(.int (0 : Int32)), (.ref r)]))
  refine Go.by (fun t9_ q9_ => XS.aloadN W96.here W96.hx rfl (hb hby dc_jdk_38_method_24_code_13) rfl rfl q9_) ?_
  show Go p e below s Z [] _ _ _ (T93.setTop (mkF m 14 #[.val (.ref x), .val (.ref q), .val (.ref r), .val (.int (0 : Int32))] [(.ref q), (.int (0 : Int32)), (.ref r)]))
  have q4' := q4.pad (pad_rep [] .null 1)
  obtain ⟨cl_r, ar1, ar2, -⟩ := id q4
  refine W96.aast q4' rfl ⟨by decide, by decide⟩ (i := 0) rfl (by simp) (Sto.ofV ar1 ar2 q5 (Ins.of_exa (E_q.keep q1) (wd84 hw))) rfl (Nat.le_trans hE0.1 q2) (List.mem_of_getElem? (i := 0) rfl) (hb hby dc_jdk_38_method_24_code_14) ?_
  intro T97 h98 W99 Wr100 V101_r
  show Go p e below s Z [] _ _ _ (T97.setTop (mkF m 15 #[.val (.ref x), .val (.ref q), .val (.ref r), .val (.int (0 : Int32))] []))
  refine Go.by (fun t9_ q9_ => XS.aloadN W99.here W99.hx rfl (hb hby dc_jdk_38_method_24_code_15) rfl rfl q9_) ?_
  show Go p e below s Z [] _ _ _ (T97.setTop (mkF m 16 #[.val (.ref x), .val (.ref q), .val (.ref r), .val (.int (0 : Int32))] [(.ref x)]))
  refine Go.by (fun t9_ q9_ => XS.iloadN W99.here W99.hx rfl (hb hby dc_jdk_38_method_24_code_16) rfl q9_) ?_
  show Go p e below s Z [] _ _ _ (T97.setTop (mkF m 17 #[.val (.ref x), .val (.ref q), .val (.ref r), .val (.int (0 : Int32))] [(.int (0 : Int32)), (.ref x)]))
  refine Go.by (fun t9_ q9_ => XS.iconst W99.here W99.hx rfl (hb hby dc_jdk_38_method_24_code_17) q9_) ?_
  show Go p e below s Z [] _ _ _ (T97.setTop (mkF m 18 #[.val (.ref x), .val (.ref q), .val (.ref r), .val (.int (0 : Int32))] [(.int (1 : Int32)), (.int (0 : Int32)), (.ref x)]))
  refine Go.by (fun t9_ q9_ => XS.iadd W99.here W99.hx rfl (hb hby dc_jdk_38_method_24_code_18) rfl q9_) ?_
  show Go p e below s Z [] _ _ _ (T97.setTop (mkF m 19 #[.val (.ref x), .val (.ref q), .val (.ref r), .val (.int (0 : Int32))] [(.int ((0 : Int32) + (1 : Int32))), (.ref x)]))
  show Go p e below s Z [] _ _ _ (T97.setTop (mkF m 19 #[.val (.ref x), .val (.ref q), .val (.ref r), .val (.int (0 : Int32))] [(.int (1 : Int32)), (.ref x)]))
  refine W99.putf (host := "") (Or.inl (wd61 hw)) Via.refl (q7.other Wr100 (Or.inl (Exa.ne q6 q3 (by decide)))) (q6.wr Wr100) (Or.inl (wd62 hw)) (wd5 hw) (ty := .int) (by decide) rfl rfl z_x (List.mem_of_getElem? (i := 1) rfl) (hb hby dc_jdk_38_method_24_code_19) ?_
  intro T102 h103 W104 Wr105
  have F106 : Fld Z h103 x "java/util/ArrayList" "size" "I" (.int (1 : Int32)) := (q7.other Wr100 (Or.inl (Exa.ne q6 q3 (by decide)))).same Wr105
  have A107 : Exa Z h103 x "java/util/ArrayList" := (q6.wr Wr100).wr Wr105
  show Go p e below s Z [] _ _ _ (T102.setTop (mkF m 22 #[.val (.ref x), .val (.ref q), .val (.ref r), .val (.int (0 : Int32))] []))
  exact W104.retV (by decide) (by decide) hret (hb hby dc_jdk_38_method_24_code_22) ⟨rfl, ((q1.wr Wr100 (Or.inr q2)).wr Wr105 (Or.inl (List.mem_of_getElem? (i := 0) rfl)))⟩
set_option maxRecDepth 65536 in
set_option maxHeartbeats 40000000 in
theorem c_add1 (l : Launch) (Z : State) (a0 : Array Value) (hw : ∀ d ∈ tables_1, d.before a0 Z = true) (hEL : EW Z a0 []) (h0 : Heap) (hE0 : Ext Z.heap h0) (x dd : Addr) (kd : ClassId) (mc : Int32) (q : Addr) (E_x : Exa Z h0 x "java/util/ArrayList") (FM : Fld Z h0 x "java/util/AbstractList" "modCount" "I" (.int mc)) (FD : Fld Z h0 x "java/util/ArrayList" "elementData" "[Ljava/lang/Object;" (.ref dd)) (FS : Fld Z h0 x "java/util/ArrayList" "size" "I" (.int 0)) (z_x : Z.heap.size ≤ x) (SD : Sta Z Z.heap "java/util/ArrayList" "DEFAULTCAPACITY_EMPTY_ELEMENTDATA" "[Ljava/lang/Object;" (.ref dd)) (DA : Arv Z Z.heap dd kd (.object "java/lang/Object") 0 [] .null) (E_q : Exa Z h0 q "java/lang/String") :
    Con l Z [] [x] (⟨"java/util/ArrayList", "add", "(Ljava/lang/Object;)Z"⟩ : MethodName) jdk_38_method_25_code 2 (some .boolean) [] ({ frames := 4, cells := 1, slots := 10, locals := 60 } : Room) #[(.ref x), (.ref q)] h0 (fun v h' => v = some (.int 1) ∧ Keep h0 h' [x]) := by
  refine Con.mk (plainFor_of_name pn_4) hEL hE0 (allS E_x.lt all0) ?_
  intro p e s m below meth c T0 hby hml hret hnm W0
  rw [(show entryFrame m #[(.ref x), (.ref q)] 2 = mkF m 0 #[.val (.ref x), .val (.ref q)] [] from by first | (simp [entryFrame, mkF, argsToLocals, Value.category]; done) | rfl)]
  refine Go.by (fun t9_ q9_ => XS.aloadN W0.here W0.hx rfl (hb hby dc_jdk_38_method_25_code_0) rfl rfl q9_) ?_
  show Go p e below s Z [] _ _ _ (T0.setTop (mkF m 1 #[.val (.ref x), .val (.ref q)] [(.ref x)]))
  refine Go.by (fun t9_ q9_ => XS.dup W0.here W0.hx rfl (hb hby dc_jdk_38_method_25_code_1) rfl rfl q9_) ?_
  show Go p e below s Z [] _ _ _ (T0.setTop (mkF m 2 #[.val (.ref x), .val (.ref q)] [(.ref x), (.ref x)]))
  refine W0.getf (host := "") (Or.inl (wd59 hw)) (Via.of (wd60 hw)) FM (hb hby dc_jdk_38_method_25_code_2) ?_
  intro T108 W109
  show Go p e below s Z [] _ _ _ (T108.setTop (mkF m 5 #[.val (.ref x), .val (.ref q)] [(.int mc), (.ref x)]))
  refine Go.by (fun t9_ q9_ => XS.iconst W109.here W109.hx rfl (hb hby dc_jdk_38_method_25_code_5) q9_) ?_
  show Go p e below s Z [] _ _ _ (T108.setTop (mkF m 6 #[.val (.ref x), .val (.ref q)] [(.int (1 : Int32)), (.int mc), (.ref x)]))
  refine Go.by (fun t9_ q9_ => XS.iadd W109.here W109.hx rfl (hb hby dc_jdk_38_method_25_code_6) rfl q9_) ?_
  show Go p e below s Z [] _ _ _ (T108.setTop (mkF m 7 #[.val (.ref x), .val (.ref q)] [(.int (mc + (1 : Int32))), (.ref x)]))
  refine W109.putf (host := "") (Or.inl (wd59 hw)) (Via.of (wd60 hw)) FM E_x (Or.inl (wd26 hw)) (wd5 hw) (ty := .int) (by decide) rfl rfl z_x (List.mem_of_getElem? (i := 0) rfl) (hb hby dc_jdk_38_method_25_code_7) ?_
  intro T110 h111 W112 Wr113
  have F114 : Fld Z h111 x "java/util/AbstractList" "modCount" "I" (.int (mc + (1 : Int32))) := FM.same Wr113
  have F115 : Fld Z h111 x "java/util/ArrayList" "elementData" "[Ljava/lang/Object;" (.ref dd) := FD.other Wr113 (Or.inr (slot_ne (Or.inl (wd29 hw)) (Or.inl (wd26 hw)) (by decide) (t := (.array (.object "java/lang/Object"))) (t' := .int) (by decide) (by decide)))
  have F116 : Fld Z h111 x "java/util/ArrayList" "size" "I" (.int 0) := FS.other Wr113 (Or.inr (slot_ne (Or.inl (wd62 hw)) (Or.inl (wd26 hw)) (by decide) (t := .int) (t' := .int) (by decide) (by decide)))
  have A117 : Exa Z h111 x "java/util/ArrayList" := E_x.wr Wr113
  show Go p e below s Z [] _ _ _ (T110.setTop (mkF m 10 #[.val (.ref x), .val (.ref q)] []))
  refine Go.by (fun t9_ q9_ => XS.aloadN W112.here W112.hx rfl (hb hby dc_jdk_38_method_25_code_10) rfl rfl q9_) ?_
  show Go p e below s Z [] _ _ _ (T110.setTop (mkF m 11 #[.val (.ref x), .val (.ref q)] [(.ref x)]))
  refine Go.by (fun t9_ q9_ => XS.aloadN W112.here W112.hx rfl (hb hby dc_jdk_38_method_25_code_11) rfl rfl q9_) ?_
  show Go p e below s Z [] _ _ _ (T110.setTop (mkF m 12 #[.val (.ref x), .val (.ref q)] [(.ref q), (.ref x)]))
  refine Go.by (fun t9_ q9_ => XS.aloadN W112.here W112.hx rfl (hb hby dc_jdk_38_method_25_code_12) rfl rfl q9_) ?_
  show Go p e below s Z [] _ _ _ (T110.setTop (mkF m 13 #[.val (.ref x), .val (.ref q)] [(.ref x), (.ref q), (.ref x)]))
  refine W112.getf (host := "") (Or.inl (wd28 hw)) Via.refl F115 (hb hby dc_jdk_38_method_25_code_13) ?_
  intro T118 W119
  show Go p e below s Z [] _ _ _ (T118.setTop (mkF m 16 #[.val (.ref x), .val (.ref q)] [(.ref dd), (.ref q), (.ref x)]))
  refine Go.by (fun t9_ q9_ => XS.aloadN W119.here W119.hx rfl (hb hby dc_jdk_38_method_25_code_16) rfl rfl q9_) ?_
  show Go p e below s Z [] _ _ _ (T118.setTop (mkF m 17 #[.val (.ref x), .val (.ref q)] [(.ref x), (.ref dd), (.ref q), (.ref x)]))
  refine W119.getf (host := "") (Or.inl (wd61 hw)) Via.refl F116 (hb hby dc_jdk_38_method_25_code_17) ?_
  intro T120 W121
  show Go p e below s Z [] _ _ _ (T120.setTop (mkF m 20 #[.val (.ref x), .val (.ref q)] [(.int (0 : Int32)), (.ref dd), (.ref q), (.ref x)]))
  refine W121.callP (y := (⟨"java/util/ArrayList", "add", "(Ljava/lang/Object;[Ljava/lang/Object;I)V"⟩ : MethodName)) (wd63 hw) (wd64 hw) (wd66 hw) (wd65 hw) (wd6 hw) (wd67 hw) (by decide) A117 (a := x) (c_add3 l Z a0 hw hEL h111 W121.old x dd kd (mc + (1 : Int32)) q A117 F114 F115 F116 z_x SD DA (E_q.wr Wr113)) (allS (List.mem_of_getElem? (i := 0) rfl) all0) (by decide) (by decide) (k' := 1) (n' := 10) rfl rfl (by decide) (by decide) (by rw [hml]; rfl) (argsL := [(.ref q), (.ref dd), (.int (0 : Int32))]) (rest := []) (lenOf pd_7 rfl) rfl rfl (Wt := 0) (Nat.le_of_eq rfl) (hb hby dc_jdk_38_method_25_code_20) ?_
  intro v_ T122 h124 W123 hq_
  obtain ⟨rfl, K2⟩ := hq_
  show Go p e below s Z [] _ _ _ (T122.setTop (mkF m 23 #[.val (.ref x), .val (.ref q)] []))
  refine Go.by (fun t9_ q9_ => XS.iconst W123.here W123.hx rfl (hb hby dc_jdk_38_method_25_code_23) q9_) ?_
  show Go p e below s Z [] _ _ _ (T122.setTop (mkF m 24 #[.val (.ref x), .val (.ref q)] [(.int (1 : Int32))]))
  exact W123.retN (z' := (1 : Int32)) (by decide) (by decide) hret (by simp) (hb hby dc_jdk_38_method_25_code_24) rfl ⟨rfl, (((Keep.refl h0 [x]).wr Wr113 (Or.inl (List.mem_of_getElem? (i := 0) rfl))).trans K2 (allS (Or.inl (List.mem_of_getElem? (i := 0) rfl)) all0))⟩
set_option maxRecDepth 65536 in
set_option maxHeartbeats 40000000 in
theorem c_recinit (l : Launch) (Z : State) (a0 : Array Value) (hw : ∀ d ∈ tables_1, d.before a0 Z = true) (hEL : EW Z a0 []) (h0 : Heap) (hE0 : Ext Z.heap h0) (x : Addr)  :
    Con l Z [] [] (⟨"java/lang/Record", "<init>", "()V"⟩ : MethodName) jdk_30_method_1_code 1 none [] ({ frames := 1, cells := 0, slots := 0, locals := 12 } : Room) #[(.ref x)] h0 (fun v h' => v = none ∧ h' = h0) := by
  refine Con.mk (plainFor_of_name pn_5) hEL hE0 (fun x hx => by cases hx) ?_
  intro p e s m below meth c T0 hby hml hret hnm W0
  rw [(show entryFrame m #[(.ref x)] 1 = mkF m 0 #[.val (.ref x)] [] from by first | (simp [entryFrame, mkF, argsToLocals, Value.category]; done) | rfl)]
  refine Go.by (fun t9_ q9_ => XS.aloadN W0.here W0.hx rfl (hb hby dc_jdk_30_method_1_code_0) rfl rfl q9_) ?_
  show Go p e below s Z [] _ _ _ (T0.setTop (mkF m 1 #[.val (.ref x)] [(.ref x)]))
  refine W0.initO (wd99 hw) (wd23 hw) (wd24 hw) (by rw [hml]; rfl) (hb hby dc_jdk_30_method_1_code_1) (by decide) (Wt := 0) (Nat.le_of_eq rfl) (by decide) ?_
  intro T125 W126
  show Go p e below s Z [] _ _ _ (T125.setTop (mkF m 4 #[.val (.ref x)] []))
  exact W126.retV (by decide) (by decide) hret (hb hby dc_jdk_30_method_1_code_4) ⟨rfl, rfl⟩
set_option maxRecDepth 65536 in
set_option maxHeartbeats 40000000 in
theorem c_user (l : Launch) (Z : State) (a0 : Array Value) (hw : ∀ d ∈ tables_1, d.before a0 Z = true) (hEL : EW Z a0 []) (h0 : Heap) (hE0 : Ext Z.heap h0) (x a1 a2 a3 a5 : Addr) (v4 : Value) (hr4 : v4.isRef = true) (E_x : Exa Z h0 x "com/example/secondkey/secondkey/config/Config$User") (F1 : Fld Z h0 x "com/example/secondkey/secondkey/config/Config$User" "username" "Ljava/lang/String;" .null) (F2 : Fld Z h0 x "com/example/secondkey/secondkey/config/Config$User" "password" "Ljava/lang/String;" .null) (F3 : Fld Z h0 x "com/example/secondkey/secondkey/config/Config$User" "roles" "Ljava/util/List;" .null) (F4 : Fld Z h0 x "com/example/secondkey/secondkey/config/Config$User" "totpSecret" "Ljava/lang/String;" .null) (F5 : Fld Z h0 x "com/example/secondkey/secondkey/config/Config$User" "secondFactor" "Lcom/example/secondkey/secondkey/config/Config$SecondFactor;" .null) (z_x : Z.heap.size ≤ x) :
    Con l Z [] [x] (⟨"com/example/secondkey/secondkey/config/Config$User", "<init>", "(Ljava/lang/String;Ljava/lang/String;Ljava/util/List;Ljava/lang/String;Lcom/example/secondkey/secondkey/config/Config$SecondFactor;)V"⟩ : MethodName) prog_8_method_1_code 6 none [] ({ frames := 2, cells := 0, slots := 0, locals := 30 } : Room) #[(.ref x), (.ref a1), (.ref a2), (.ref a3), v4, (.ref a5)] h0 (fun v h' => v = none ∧ Keep h0 h' [x] ∧ Exa Z h' x "com/example/secondkey/secondkey/config/Config$User" ∧ Fld Z h' x "com/example/secondkey/secondkey/config/Config$User" "totpSecret" "Ljava/lang/String;" v4 ∧ Fld Z h' x "com/example/secondkey/secondkey/config/Config$User" "secondFactor" "Lcom/example/secondkey/secondkey/config/Config$SecondFactor;" (.ref a5)) := by
  refine Con.mk (plainFor_of_name pn_6) hEL hE0 (allS E_x.lt all0) ?_
  intro p e s m below meth c T0 hby hml hret hnm W0
  rw [(show entryFrame m #[(.ref x), (.ref a1), (.ref a2), (.ref a3), v4, (.ref a5)] 6 = mkF m 0 #[.val (.ref x), .val (.ref a1), .val (.ref a2), .val (.ref a3), .val v4, .val (.ref a5)] [] from by rcases ref_cases hr4 with h_ | ⟨q_, h_⟩ <;> rw [h_] <;> first | (simp [entryFrame, mkF, argsToLocals, Value.category]; done) | rfl)]
  refine Go.by (fun t9_ q9_ => XS.aloadN W0.here W0.hx rfl (hb hby dc_prog_8_method_1_code_0) rfl rfl q9_) ?_
  show Go p e below s Z [] _ _ _ (T0.setTop (mkF m 1 #[.val (.ref x), .val (.ref a1), .val (.ref a2), .val (.ref a3), .val v4, .val (.ref a5)] [(.ref x)]))
  refine W0.callIp (y := (⟨"java/lang/Record", "<init>", "()V"⟩ : MethodName)) rfl (wd94 hw) (wd95 hw) (wd97 hw) (wd98 hw) (by decide) (a := x) (c_recinit l Z a0 hw hEL h0 hE0 x) all0 (by decide) (by decide) (k' := 0) (n' := 0) rfl rfl (by decide) (by decide) (by rw [hml]; rfl) (argsL := []) (rest := []) (lenOf pd_3 rfl) rfl rfl (Wt := 0) (Nat.le_of_eq rfl) (hb hby dc_prog_8_method_1_code_1) ?_
  intro T127 W128
  show Go p e below s Z [] _ _ _ (T127.setTop (mkF m 4 #[.val (.ref x), .val (.ref a1), .val (.ref a2), .val (.ref a3), .val v4, .val (.ref a5)] []))
  refine Go.by (fun t9_ q9_ => XS.aloadN W128.here W128.hx rfl (hb hby dc_prog_8_method_1_code_4) rfl rfl q9_) ?_
  show Go p e below s Z [] _ _ _ (T127.setTop (mkF m 5 #[.val (.ref x), .val (.ref a1), .val (.ref a2), .val (.ref a3), .val v4, .val (.ref a5)] [(.ref x)]))
  refine Go.by (fun t9_ q9_ => XS.aloadN W128.here W128.hx rfl (hb hby dc_prog_8_method_1_code_5) rfl rfl q9_) ?_
  show Go p e below s Z [] _ _ _ (T127.setTop (mkF m 6 #[.val (.ref x), .val (.ref a1), .val (.ref a2), .val (.ref a3), .val v4, .val (.ref a5)] [(.ref a1), (.ref x)]))
  refine W128.putf (host := "") (Or.inl (wd100 hw)) Via.refl F1 E_x (Or.inr ⟨(wd101 hw), rfl, hnm⟩) (wd86 hw) (ty := (.object "java/lang/String")) (by decide) rfl rfl z_x (List.mem_of_getElem? (i := 0) rfl) (hb hby dc_prog_8_method_1_code_6) ?_
  intro T129 h130 W131 Wr132
  have F133 : Fld Z h130 x "com/example/secondkey/secondkey/config/Config$User" "username" "Ljava/lang/String;" (.ref a1) := F1.same Wr132
  have F134 : Fld Z h130 x "com/example/secondkey/secondkey/config/Config$User" "password" "Ljava/lang/String;" .null := F2.other Wr132 (Or.inr (slot_ne (Or.inr (wd103 hw)) (Or.inr (wd101 hw)) (by decide) (t := (.object "java/lang/String")) (t' := (.object "java/lang/String")) (by decide) (by decide)))
  have F135 : Fld Z h130 x "com/example/secondkey/secondkey/config/Config$User" "roles" "Ljava/util/List;" .null := F3.other Wr132 (Or.inr (slot_ne (Or.inr (wd105 hw)) (Or.inr (wd101 hw)) (by decide) (t := (.object "java/util/List")) (t' := (.object "java/lang/String")) (by decide) (by decide)))
  have F136 : Fld Z h130 x "com/example/secondkey/secondkey/config/Config$User" "totpSecret" "Ljava/lang/String;" .null := F4.other Wr132 (Or.inr (slot_ne (Or.inr (wd107 hw)) (Or.inr (wd101 hw)) (by decide) (t := (.object "java/lang/String")) (t' := (.object "java/lang/String")) (by decide) (by decide)))
  have F137 : Fld Z h130 x "com/example/secondkey/secondkey/config/Config$User" "secondFactor" "Lcom/example/secondkey/secondkey/config/Config$SecondFactor;" .null := F5.other Wr132 (Or.inr (slot_ne (Or.inr (wd109 hw)) (Or.inr (wd101 hw)) (by decide) (t := (.object "com/example/secondkey/secondkey/config/Config$SecondFactor")) (t' := (.object "java/lang/String")) (by decide) (by decide)))
  have A138 : Exa Z h130 x "com/example/secondkey/secondkey/config/Config$User" := E_x.wr Wr132
  show Go p e below s Z [] _ _ _ (T129.setTop (mkF m 9 #[.val (.ref x), .val (.ref a1), .val (.ref a2), .val (.ref a3), .val v4, .val (.ref a5)] []))
  refine Go.by (fun t9_ q9_ => XS.aloadN W131.here W131.hx rfl (hb hby dc_prog_8_method_1_code_9) rfl rfl q9_) ?_
  show Go p e below s Z [] _ _ _ (T129.setTop (mkF m 10 #[.val (.ref x), .val (.ref a1), .val (.ref a2), .val (.ref a3), .val v4, .val (.ref a5)] [(.ref x)]))
  refine Go.by (fun t9_ q9_ => XS.aloadN W131.here W131.hx rfl (hb hby dc_prog_8_method_1_code_10) rfl rfl q9_) ?_
  show Go p e below s Z [] _ _ _ (T129.setTop (mkF m 11 #[.val (.ref x), .val (.ref a1), .val (.ref a2), .val (.ref a3), .val v4, .val (.ref a5)] [(.ref a2), (.ref x)]))
  refine W131.putf (host := "") (Or.inl (wd102 hw)) Via.refl F134 A138 (Or.inr ⟨(wd103 hw), rfl, hnm⟩) (wd86 hw) (ty := (.object "java/lang/String")) (by decide) rfl rfl z_x (List.mem_of_getElem? (i := 0) rfl) (hb hby dc_prog_8_method_1_code_11) ?_
  intro T139 h140 W141 Wr142
  have F143 : Fld Z h140 x "com/example/secondkey/secondkey/config/Config$User" "password" "Ljava/lang/String;" (.ref a2) := F134.same Wr142
  have F144 : Fld Z h140 x "com/example/secondkey/secondkey/config/Config$User" "username" "Ljava/lang/String;" (.ref a1) := F133.other Wr142 (Or.inr (slot_ne (Or.inr (wd101 hw)) (Or.inr (wd103 hw)) (by decide) (t := (.object "java/lang/String")) (t' := (.object "java/lang/String")) (by decide) (by decide)))
  have F145 : Fld Z h140 x "com/example/secondkey/secondkey/config/Config$User" "roles" "Ljava/util/List;" .null := F135.other Wr142 (Or.inr (slot_ne (Or.inr (wd105 hw)) (Or.inr (wd103 hw)) (by decide) (t := (.object "java/util/List")) (t' := (.object "java/lang/String")) (by decide) (by decide)))
  have F146 : Fld Z h140 x "com/example/secondkey/secondkey/config/Config$User" "totpSecret" "Ljava/lang/String;" .null := F136.other Wr142 (Or.inr (slot_ne (Or.inr (wd107 hw)) (Or.inr (wd103 hw)) (by decide) (t := (.object "java/lang/String")) (t' := (.object "java/lang/String")) (by decide) (by decide)))
  have F147 : Fld Z h140 x "com/example/secondkey/secondkey/config/Config$User" "secondFactor" "Lcom/example/secondkey/secondkey/config/Config$SecondFactor;" .null := F137.other Wr142 (Or.inr (slot_ne (Or.inr (wd109 hw)) (Or.inr (wd103 hw)) (by decide) (t := (.object "com/example/secondkey/secondkey/config/Config$SecondFactor")) (t' := (.object "java/lang/String")) (by decide) (by decide)))
  have A148 : Exa Z h140 x "com/example/secondkey/secondkey/config/Config$User" := A138.wr Wr142
  show Go p e below s Z [] _ _ _ (T139.setTop (mkF m 14 #[.val (.ref x), .val (.ref a1), .val (.ref a2), .val (.ref a3), .val v4, .val (.ref a5)] []))
  refine Go.by (fun t9_ q9_ => XS.aloadN W141.here W141.hx rfl (hb hby dc_prog_8_method_1_code_14) rfl rfl q9_) ?_
  show Go p e below s Z [] _ _ _ (T139.setTop (mkF m 15 #[.val (.ref x), .val (.ref a1), .val (.ref a2), .val (.ref a3), .val v4, .val (.ref a5)] [(.ref x)]))
  refine Go.by (fun t9_ q9_ => XS.aloadN W141.here W141.hx rfl (hb hby dc_prog_8_method_1_code_15) rfl rfl q9_) ?_
  show Go p e below s Z [] _ _ _ (T139.setTop (mkF m 16 #[.val (.ref x), .val (.ref a1), .val (.ref a2), .val (.ref a3), .val v4, .val (.ref a5)] [(.ref a3), (.ref x)]))
  refine W141.putf (host := "") (Or.inl (wd104 hw)) Via.refl F145 A148 (Or.inr ⟨(wd105 hw), rfl, hnm⟩) (wd86 hw) (ty := (.object "java/util/List")) (by decide) rfl rfl z_x (List.mem_of_getElem? (i := 0) rfl) (hb hby dc_prog_8_method_1_code_16) ?_
  intro T149 h150 W151 Wr152
  have F153 : Fld Z h150 x "com/example/secondkey/secondkey/config/Config$User" "roles" "Ljava/util/List;" (.ref a3) := F145.same Wr152
  have F154 : Fld Z h150 x "com/example/secondkey/secondkey/config/Config$User" "username" "Ljava/lang/String;" (.ref a1) := F144.other Wr152 (Or.inr (slot_ne (Or.inr (wd101 hw)) (Or.inr (wd105 hw)) (by decide) (t := (.object "java/lang/String")) (t' := (.object "java/util/List")) (by decide) (by decide)))
  have F155 : Fld Z h150 x "com/example/secondkey/secondkey/config/Config$User" "password" "Ljava/lang/String;" (.ref a2) := F143.other Wr152 (Or.inr (slot_ne (Or.inr (wd103 hw)) (Or.inr (wd105 hw)) (by decide) (t := (.object "java/lang/String")) (t' := (.object "java/util/List")) (by decide) (by decide)))
  have F156 : Fld Z h150 x "com/example/secondkey/secondkey/config/Config$User" "totpSecret" "Ljava/lang/String;" .null := F146.other Wr152 (Or.inr (slot_ne (Or.inr (wd107 hw)) (Or.inr (wd105 hw)) (by decide) (t := (.object "java/lang/String")) (t' := (.object "java/util/List")) (by decide) (by decide)))
  have F157 : Fld Z h150 x "com/example/secondkey/secondkey/config/Config$User" "secondFactor" "Lcom/example/secondkey/secondkey/config/Config$SecondFactor;" .null := F147.other Wr152 (Or.inr (slot_ne (Or.inr (wd109 hw)) (Or.inr (wd105 hw)) (by decide) (t := (.object "com/example/secondkey/secondkey/config/Config$SecondFactor")) (t' := (.object "java/util/List")) (by decide) (by decide)))
  have A158 : Exa Z h150 x "com/example/secondkey/secondkey/config/Config$User" := A148.wr Wr152
  show Go p e below s Z [] _ _ _ (T149.setTop (mkF m 19 #[.val (.ref x), .val (.ref a1), .val (.ref a2), .val (.ref a3), .val v4, .val (.ref a5)] []))
  refine Go.by (fun t9_ q9_ => XS.aloadN W151.here W151.hx rfl (hb hby dc_prog_8_method_1_code_19) rfl rfl q9_) ?_
  show Go p e below s Z [] _ _ _ (T149.setTop (mkF m 20 #[.val (.ref x), .val (.ref a1), .val (.ref a2), .val (.ref a3), .val v4, .val (.ref a5)] [(.ref x)]))
  refine Go.by (fun t9_ q9_ => XS.aload W151.here W151.hx rfl (hb hby dc_prog_8_method_1_code_20) rfl hr4 q9_) ?_
  show Go p e below s Z [] _ _ _ (T149.setTop (mkF m 22 #[.val (.ref x), .val (.ref a1), .val (.ref a2), .val (.ref a3), .val v4, .val (.ref a5)] [v4, (.ref x)]))
  refine W151.putf (host := "") (Or.inl (wd106 hw)) Via.refl F156 A158 (Or.inr ⟨(wd107 hw), rfl, hnm⟩) (wd86 hw) (ty := (.object "java/lang/String")) (by decide) (narrow_ref_of hr4) (fits_ref_of hr4) z_x (List.mem_of_getElem? (i := 0) rfl) (hb hby dc_prog_8_method_1_code_22) ?_
  intro T159 h160 W161 Wr162
  have F163 : Fld Z h160 x "com/example/secondkey/secondkey/config/Config$User" "totpSecret" "Ljava/lang/String;" v4 := F156.same Wr162
  have F164 : Fld Z h160 x "com/example/secondkey/secondkey/config/Config$User" "username" "Ljava/lang/String;" (.ref a1) := F154.other Wr162 (Or.inr (slot_ne (Or.inr (wd101 hw)) (Or.inr (wd107 hw)) (by decide) (t := (.object "java/lang/String")) (t' := (.object "java/lang/String")) (by decide) (by decide)))
  have F165 : Fld Z h160 x "com/example/secondkey/secondkey/config/Config$User" "password" "Ljava/lang/String;" (.ref a2) := F155.other Wr162 (Or.inr (slot_ne (Or.inr (wd103 hw)) (Or.inr (wd107 hw)) (by decide) (t := (.object "java/lang/String")) (t' := (.object "java/lang/String")) (by decide) (by decide)))
  have F166 : Fld Z h160 x "com/example/secondkey/secondkey/config/Config$User" "roles" "Ljava/util/List;" (.ref a3) := F153.other Wr162 (Or.inr (slot_ne (Or.inr (wd105 hw)) (Or.inr (wd107 hw)) (by decide) (t := (.object "java/util/List")) (t' := (.object "java/lang/String")) (by decide) (by decide)))
  have F167 : Fld Z h160 x "com/example/secondkey/secondkey/config/Config$User" "secondFactor" "Lcom/example/secondkey/secondkey/config/Config$SecondFactor;" .null := F157.other Wr162 (Or.inr (slot_ne (Or.inr (wd109 hw)) (Or.inr (wd107 hw)) (by decide) (t := (.object "com/example/secondkey/secondkey/config/Config$SecondFactor")) (t' := (.object "java/lang/String")) (by decide) (by decide)))
  have A168 : Exa Z h160 x "com/example/secondkey/secondkey/config/Config$User" := A158.wr Wr162
  show Go p e below s Z [] _ _ _ (T159.setTop (mkF m 25 #[.val (.ref x), .val (.ref a1), .val (.ref a2), .val (.ref a3), .val v4, .val (.ref a5)] []))
  refine Go.by (fun t9_ q9_ => XS.aloadN W161.here W161.hx rfl (hb hby dc_prog_8_method_1_code_25) rfl rfl q9_) ?_
  show Go p e below s Z [] _ _ _ (T159.setTop (mkF m 26 #[.val (.ref x), .val (.ref a1), .val (.ref a2), .val (.ref a3), .val v4, .val (.ref a5)] [(.ref x)]))
  refine Go.by (fun t9_ q9_ => XS.aload W161.here W161.hx rfl (hb hby dc_prog_8_method_1_code_26) rfl rfl q9_) ?_
  show Go p e below s Z [] _ _ _ (T159.setTop (mkF m 28 #[.val (.ref x), .val (.ref a1), .val (.ref a2), .val (.ref a3), .val v4, .val (.ref a5)] [(.ref a5), (.ref x)]))
  refine W161.putf (host := "") (Or.inl (wd108 hw)) Via.refl F167 A168 (Or.inr ⟨(wd109 hw), rfl, hnm⟩) (wd86 hw) (ty := (.object "com/example/secondkey/secondkey/config/Config$SecondFactor")) (by decide) rfl rfl z_x (List.mem_of_getElem? (i := 0) rfl) (hb hby dc_prog_8_method_1_code_28) ?_
  intro T169 h170 W171 Wr172
  have F173 : Fld Z h170 x "com/example/secondkey/secondkey/config/Config$User" "secondFactor" "Lcom/example/secondkey/secondkey/config/Config$SecondFactor;" (.ref a5) := F167.same Wr172
  have F174 : Fld Z h170 x "com/example/secondkey/secondkey/config/Config$User" "username" "Ljava/lang/String;" (.ref a1) := F164.other Wr172 (Or.inr (slot_ne (Or.inr (wd101 hw)) (Or.inr (wd109 hw)) (by decide) (t := (.object "java/lang/String")) (t' := (.object "com/example/secondkey/secondkey/config/Config$SecondFactor")) (by decide) (by decide)))
  have F175 : Fld Z h170 x "com/example/secondkey/secondkey/config/Config$User" "password" "Ljava/lang/String;" (.ref a2) := F165.other Wr172 (Or.inr (slot_ne (Or.inr (wd103 hw)) (Or.inr (wd109 hw)) (by decide) (t := (.object "java/lang/String")) (t' := (.object "com/example/secondkey/secondkey/config/Config$SecondFactor")) (by decide) (by decide)))
  have F176 : Fld Z h170 x "com/example/secondkey/secondkey/config/Config$User" "roles" "Ljava/util/List;" (.ref a3) := F166.other Wr172 (Or.inr (slot_ne (Or.inr (wd105 hw)) (Or.inr (wd109 hw)) (by decide) (t := (.object "java/util/List")) (t' := (.object "com/example/secondkey/secondkey/config/Config$SecondFactor")) (by decide) (by decide)))
  have F177 : Fld Z h170 x "com/example/secondkey/secondkey/config/Config$User" "totpSecret" "Ljava/lang/String;" v4 := F163.other Wr172 (Or.inr (slot_ne (Or.inr (wd107 hw)) (Or.inr (wd109 hw)) (by decide) (t := (.object "java/lang/String")) (t' := (.object "com/example/secondkey/secondkey/config/Config$SecondFactor")) (by decide) (by decide)))
  have A178 : Exa Z h170 x "com/example/secondkey/secondkey/config/Config$User" := A168.wr Wr172
  show Go p e below s Z [] _ _ _ (T169.setTop (mkF m 31 #[.val (.ref x), .val (.ref a1), .val (.ref a2), .val (.ref a3), .val v4, .val (.ref a5)] []))
  exact W171.retV (by decide) (by decide) hret (hb hby dc_prog_8_method_1_code_31) ⟨rfl, ((((((Keep.refl h0 [x]).wr Wr132 (Or.inl (List.mem_of_getElem? (i := 0) rfl))).wr Wr142 (Or.inl (List.mem_of_getElem? (i := 0) rfl))).wr Wr152 (Or.inl (List.mem_of_getElem? (i := 0) rfl))).wr Wr162 (Or.inl (List.mem_of_getElem? (i := 0) rfl))).wr Wr172 (Or.inl (List.mem_of_getElem? (i := 0) rfl))), A178, F177, F173⟩
set_option maxRecDepth 65536 in
set_option maxHeartbeats 40000000 in
theorem c_enrolled (l : Launch) (Z : State) (a0 : Array Value) (hw : ∀ d ∈ tables_1, d.before a0 Z = true) (hEL : EW Z a0 []) (h0 : Heap) (hE0 : Ext Z.heap h0) (x : Addr) (v4 : Value) (hr4 : v4.isRef = true) (FT : Fld Z h0 x "com/example/secondkey/secondkey/config/Config$User" "totpSecret" "Ljava/lang/String;" v4) :
    Con l Z [] [] (⟨"com/example/secondkey/secondkey/config/Config$User", "enrolled", "()Z"⟩ : MethodName) prog_8_method_2_code 1 (some .boolean) [] ({ frames := 0, cells := 0, slots := 0, locals := 0 } : Room) #[(.ref x)] h0 (fun v h' => v = (some (.int (if v4 = .null then 0 else 1))) ∧ h' = h0) := by
  refine Con.mk (plainFor_of_name pn_6) hEL hE0 (fun x hx => by cases hx) ?_
  intro p e s m below meth c T0 hby hml hret hnm W0
  rw [(show entryFrame m #[(.ref x)] 1 = mkF m 0 #[.val (.ref x)] [] from by first | (simp [entryFrame, mkF, argsToLocals, Value.category]; done) | rfl)]
  refine Go.by (fun t9_ q9_ => XS.aloadN W0.here W0.hx rfl (hb hby dc_prog_8_method_2_code_0) rfl rfl q9_) ?_
  show Go p e below s Z [] _ _ _ (T0.setTop (mkF m 1 #[.val (.ref x)] [(.ref x)]))
  rcases ref_cases hr4 with h4 | ⟨q4, h4⟩
  · subst h4
    refine W0.getf (host := "") (Or.inl (wd106 hw)) Via.refl FT (hb hby dc_prog_8_method_2_code_1) ?_
    intro T179 W180
    show Go p e below s Z [] _ _ _ (T179.setTop (mkF m 4 #[.val (.ref x)] [.null]))
    refine Go.by (fun t9_ q9_ => XS.ifnullYes W180.here W180.hx rfl (pc0 := 4) (pc' := 11) rfl (hb hby dc_prog_8_method_2_code_4) rfl (by decide) (by decide) q9_) ?_
    show Go p e below s Z [] _ _ _ (T179.setTop (mkF m 11 #[.val (.ref x)] []))
    refine Go.by (fun t9_ q9_ => XS.iconst W180.here W180.hx rfl (hb hby dc_prog_8_method_2_code_11) q9_) ?_
    show Go p e below s Z [] _ _ _ (T179.setTop (mkF m 12 #[.val (.ref x)] [(.int (0 : Int32))]))
    exact W180.retN (z' := (0 : Int32)) (by decide) (by decide) hret (by simp) (hb hby dc_prog_8_method_2_code_12) rfl ⟨by simp, rfl⟩
  · subst h4
    refine W0.getf (host := "") (Or.inl (wd106 hw)) Via.refl FT (hb hby dc_prog_8_method_2_code_1) ?_
    intro T181 W182
    show Go p e below s Z [] _ _ _ (T181.setTop (mkF m 4 #[.val (.ref x)] [(.ref q4)]))
    refine Go.by (fun t9_ q9_ => XS.ifnullNo W182.here W182.hx rfl (hb hby dc_prog_8_method_2_code_4) rfl q9_) ?_
    show Go p e below s Z [] _ _ _ (T181.setTop (mkF m 7 #[.val (.ref x)] []))
    refine Go.by (fun t9_ q9_ => XS.iconst W182.here W182.hx rfl (hb hby dc_prog_8_method_2_code_7) q9_) ?_
    show Go p e below s Z [] _ _ _ (T181.setTop (mkF m 8 #[.val (.ref x)] [(.int (1 : Int32))]))
    refine Go.by (fun t9_ q9_ => XS.goto W182.here W182.hx rfl (pc0 := 8) (pc' := 12) rfl (hb hby dc_prog_8_method_2_code_8) (by decide) (by decide) q9_) ?_
    show Go p e below s Z [] _ _ _ (T181.setTop (mkF m 12 #[.val (.ref x)] [(.int (1 : Int32))]))
    exact W182.retN (z' := (1 : Int32)) (by decide) (by decide) hret (by simp) (hb hby dc_prog_8_method_2_code_12) rfl ⟨by simp, rfl⟩
set_option maxRecDepth 65536 in
set_option maxHeartbeats 40000000 in
theorem c_owes (l : Launch) (Z : State) (a0 : Array Value) (hw : ∀ d ∈ tables_1, d.before a0 Z = true) (hEL : EW Z a0 []) (h0 : Heap) (hE0 : Ext Z.heap h0) (x a5 aA : Addr) (v4 : Value) (hr4 : v4.isRef = true) (cr : Int32) (E_x : Exa Z h0 x "com/example/secondkey/secondkey/config/Config$User") (FT : Fld Z h0 x "com/example/secondkey/secondkey/config/Config$User" "totpSecret" "Ljava/lang/String;" v4) (FS : Fld Z h0 x "com/example/secondkey/secondkey/config/Config$User" "secondFactor" "Lcom/example/secondkey/secondkey/config/Config$SecondFactor;" (.ref a5)) (SA : Sta Z Z.heap "com/example/secondkey/secondkey/config/Config$SecondFactor" "ALWAYS" "Lcom/example/secondkey/secondkey/config/Config$SecondFactor;" (.ref aA)) :
    Con l Z [] [] (⟨"com/example/secondkey/secondkey/config/Config$User", "owesSecondFactor", "(Z)Z"⟩ : MethodName) prog_8_method_3_code 2 (some .boolean) [] ({ frames := 1, cells := 0, slots := 0, locals := 12 } : Room) #[(.ref x), (.int cr)] h0 (fun v h' => v = (some (.int (if v4 = .null then (0 : Int32) else if a5 = aA then 1 else if cr = 0 then 0 else 1))) ∧ h' = h0) := by
  refine Con.mk (plainFor_of_name pn_6) hEL hE0 (fun x hx => by cases hx) ?_
  intro p e s m below meth c T0 hby hml hret hnm W0
  rw [(show entryFrame m #[(.ref x), (.int cr)] 2 = mkF m 0 #[.val (.ref x), .val (.int cr)] [] from by first | (simp [entryFrame, mkF, argsToLocals, Value.category]; done) | rfl)]
  refine Go.by (fun t9_ q9_ => XS.aloadN W0.here W0.hx rfl (hb hby dc_prog_8_method_3_code_0) rfl rfl q9_) ?_
  show Go p e below s Z [] _ _ _ (T0.setTop (mkF m 1 #[.val (.ref x), .val (.int cr)] [(.ref x)]))
  refine W0.callVp (y := (⟨"com/example/secondkey/secondkey/config/Config$User", "enrolled", "()Z"⟩ : MethodName)) (z := (⟨"com/example/secondkey/secondkey/config/Config$User", "enrolled", "()Z"⟩ : MethodName)) (wd115 hw) (wd116 hw) (nf_sel rfl (wd118 hw)) (wd118 hw) (wd117 hw) (wd87 hw) (wd119 hw) (by decide) E_x (a := x) (c_enrolled l Z a0 hw hEL h0 hE0 x v4 hr4 FT) all0 (by decide) (by decide) (k' := 0) (n' := 0) rfl rfl (by decide) (by decide) (by rw [hml]; rfl) (argsL := []) (rest := []) (lenOf pd_8 rfl) rfl rfl (Wt := 0) (Nat.le_of_eq rfl) (hb hby dc_prog_8_method_3_code_1) ?_
  intro T183 W184
  show Go p e below s Z [] _ _ _ (T183.setTop (mkF m 4 #[.val (.ref x), .val (.int cr)] [(.int (if v4 = .null then (0 : Int32) else 1))]))
  by_cases hv : v4 = .null
  · refine Go.by (fun t9_ q9_ => XS.ifYes W184.here W184.hx rfl (pc0 := 4) (pc' := 25) rfl (hb hby dc_prog_8_method_3_code_4) rfl ((if0 _ _).trans (teq (by rw [if_pos hv])).1) (by decide) (by decide) q9_) ?_
    show Go p e below s Z [] _ _ _ (T183.setTop (mkF m 25 #[.val (.ref x), .val (.int cr)] []))
    refine Go.by (fun t9_ q9_ => XS.iconst W184.here W184.hx rfl (hb hby dc_prog_8_method_3_code_25) q9_) ?_
    show Go p e below s Z [] _ _ _ (T183.setTop (mkF m 26 #[.val (.ref x), .val (.int cr)] [(.int (0 : Int32))]))
    exact W184.retN (z' := (0 : Int32)) (by decide) (by decide) hret (by simp) (hb hby dc_prog_8_method_3_code_26) rfl ⟨by rw [if_pos hv], rfl⟩
  · refine Go.by (fun t9_ q9_ => XS.ifNo W184.here W184.hx rfl (hb hby dc_prog_8_method_3_code_4) rfl ((if0 _ _).trans (feq (by rw [if_neg hv]; decide)).1) q9_) ?_
    show Go p e below s Z [] _ _ _ (T183.setTop (mkF m 7 #[.val (.ref x), .val (.int cr)] []))
    refine Go.by (fun t9_ q9_ => XS.aloadN W184.here W184.hx rfl (hb hby dc_prog_8_method_3_code_7) rfl rfl q9_) ?_
    show Go p e below s Z [] _ _ _ (T183.setTop (mkF m 8 #[.val (.ref x), .val (.int cr)] [(.ref x)]))
    refine W184.getf (host := "") (Or.inl (wd108 hw)) Via.refl FS (hb hby dc_prog_8_method_3_code_8) ?_
    intro T185 W186
    show Go p e below s Z [] _ _ _ (T185.setTop (mkF m 11 #[.val (.ref x), .val (.int cr)] [(.ref a5)]))
    refine W186.gets (host := "") (Or.inl (wd139 hw)) Via.refl (SA.ext W186.old) (hb hby dc_prog_8_method_3_code_11) ?_
    intro T187 W188
    show Go p e below s Z [] _ _ _ (T187.setTop (mkF m 14 #[.val (.ref x), .val (.int cr)] [(.ref aA), (.ref a5)]))
    by_cases hq : a5 = aA
    · refine Go.by (fun t9_ q9_ => acmpW W188 (g := (mkF m 14 #[.val (.ref x), .val (.int cr)] [(.ref aA), (.ref a5)])) rfl rfl rfl (pc0 := 14) (pc' := 21) (same := true) rfl (hb hby dc_prog_8_method_3_code_14) rfl (decide_eq_true (congrArg Value.ref hq)) (by decide) (by decide) q9_) ?_
      show Go p e below s Z [] _ _ _ (T187.setTop (mkF m 21 #[.val (.ref x), .val (.int cr)] []))
      refine Go.by (fun t9_ q9_ => XS.iconst W188.here W188.hx rfl (hb hby dc_prog_8_method_3_code_21) q9_) ?_
      show Go p e below s Z [] _ _ _ (T187.setTop (mkF m 22 #[.val (.ref x), .val (.int cr)] [(.int (1 : Int32))]))
      refine Go.by (fun t9_ q9_ => XS.goto W188.here W188.hx rfl (pc0 := 22) (pc' := 26) rfl (hb hby dc_prog_8_method_3_code_22) (by decide) (by decide) q9_) ?_
      show Go p e below s Z [] _ _ _ (T187.setTop (mkF m 26 #[.val (.ref x), .val (.int cr)] [(.int (1 : Int32))]))
      exact W188.retN (z' := (1 : Int32)) (by decide) (by decide) hret (by simp) (hb hby dc_prog_8_method_3_code_26) rfl ⟨by rw [if_neg hv, if_pos hq], rfl⟩
    · refine Go.by (fun t9_ q9_ => acmpW W188 (g := (mkF m 14 #[.val (.ref x), .val (.int cr)] [(.ref aA), (.ref a5)])) rfl rfl rfl (pc0 := 14) (pc' := 17) (same := false) rfl (hb hby dc_prog_8_method_3_code_14) rfl (decide_eq_false (fun q => hq (Value.ref.inj q))) (by decide) (by decide) q9_) ?_
      show Go p e below s Z [] _ _ _ (T187.setTop (mkF m 17 #[.val (.ref x), .val (.int cr)] []))
      refine Go.by (fun t9_ q9_ => XS.iloadN W188.here W188.hx rfl (hb hby dc_prog_8_method_3_code_17) rfl q9_) ?_
      show Go p e below s Z [] _ _ _ (T187.setTop (mkF m 18 #[.val (.ref x), .val (.int cr)] [(.int cr)]))
      by_cases hcr : cr = (0 : Int32)
      · refine Go.by (fun t9_ q9_ => XS.ifYes W188.here W188.hx rfl (pc0 := 18) (pc' := 25) rfl (hb hby dc_prog_8_method_3_code_18) rfl ((if0 _ _).trans (teq hcr).1) (by decide) (by decide) q9_) ?_
        show Go p e below s Z [] _ _ _ (T187.setTop (mkF m 25 #[.val (.ref x), .val (.int cr)] []))
        refine Go.by (fun t9_ q9_ => XS.iconst W188.here W188.hx rfl (hb hby dc_prog_8_method_3_code_25) q9_) ?_
        show Go p e below s Z [] _ _ _ (T187.setTop (mkF m 26 #[.val (.ref x), .val (.int cr)] [(.int (0 : Int32))]))
        exact W188.retN (z' := (0 : Int32)) (by decide) (by decide) hret (by simp) (hb hby dc_prog_8_method_3_code_26) rfl ⟨by rw [if_neg hv, if_neg hq, if_pos hcr], rfl⟩
      · refine Go.by (fun t9_ q9_ => XS.ifNo W188.here W188.hx rfl (hb hby dc_prog_8_method_3_code_18) rfl ((if0 _ _).trans (feq hcr).1) q9_) ?_
        show Go p e below s Z [] _ _ _ (T187.setTop (mkF m 21 #[.val (.ref x), .val (.int cr)] []))
        refine Go.by (fun t9_ q9_ => XS.iconst W188.here W188.hx rfl (hb hby dc_prog_8_method_3_code_21) q9_) ?_
        show Go p e below s Z [] _ _ _ (T187.setTop (mkF m 22 #[.val (.ref x), .val (.int cr)] [(.int (1 : Int32))]))
        refine Go.by (fun t9_ q9_ => XS.goto W188.here W188.hx rfl (pc0 := 22) (pc' := 26) rfl (hb hby dc_prog_8_method_3_code_22) (by decide) (by decide) q9_) ?_
        show Go p e below s Z [] _ _ _ (T187.setTop (mkF m 26 #[.val (.ref x), .val (.int cr)] [(.int (1 : Int32))]))
        exact W188.retN (z' := (1 : Int32)) (by decide) (by decide) hret (by simp) (hb hby dc_prog_8_method_3_code_26) rfl ⟨by rw [if_neg hv, if_neg hq, if_neg hcr], rfl⟩
set_option maxRecDepth 65536 in
set_option maxHeartbeats 40000000 in
theorem c_law (l : Launch) (Z : State) (a0 : Array Value) (hw : ∀ d ∈ tables_1, d.before a0 Z = true) (hEL : EW Z a0 []) (h0 : Heap) (hE0 : Ext Z.heap h0) (p0 p1 p2 p3 G1 : Int32) (dd aW aA : Addr) (kd : ClassId) (SG1 : Sta Z Z.heap "java/lang/String" "COMPACT_STRINGS" "Z" (.int G1)) (hG : ¬ G1 = 0) (SD : Sta Z Z.heap "java/util/ArrayList" "DEFAULTCAPACITY_EMPTY_ELEMENTDATA" "[Ljava/lang/Object;" (.ref dd)) (DA : Arv Z Z.heap dd kd (.object "java/lang/Object") 0 [] .null) (SW : Sta Z Z.heap "com/example/secondkey/secondkey/config/Config$SecondFactor" "WHEN_CLIENT_REQUIRES" "Lcom/example/secondkey/secondkey/config/Config$SecondFactor;" (.ref aW)) (SA : Sta Z Z.heap "com/example/secondkey/secondkey/config/Config$SecondFactor" "ALWAYS" "Lcom/example/secondkey/secondkey/config/Config$SecondFactor;" (.ref aA)) (hneA : ¬ aW = aA) :
    Con l Z [] [] x code maxLocals ret tables_1 room_1 #[(.int p0), (.int p1), (.int p2), (.int p3)] h0 (fun v h' => v = some (.int 1)) := by
  refine Con.mk (plainFor_of_name pn_7) hEL hE0 (fun x hx => by cases hx) ?_
  intro p e s m below meth c T0 hby hml hret hnm W0
  rw [(show entryFrame m #[(.int p0), (.int p1), (.int p2), (.int p3)] maxLocals = mkF m 0 #[.val (.int p0), .val (.int p1), .val (.int p2), .val (.int p3), .unset, .unset, .unset, .unset, .unset, .unset, .unset, .unset, .unset] [] from by first | (simp [entryFrame, mkF, argsToLocals, Value.category, maxLocals]; done) | rfl)]
  refine Go.by (fun t9_ q9_ => XS.iloadN W0.here W0.hx rfl (hb hby at_0) rfl q9_) ?_
  show Go p e below s Z [] _ _ _ (T0.setTop (mkF m 1 #[.val (.int p0), .val (.int p1), .val (.int p2), .val (.int p3), .unset, .unset, .unset, .unset, .unset, .unset, .unset, .unset, .unset] [(.int p0)]))
  refine Go.by (fun t9_ q9_ => XS.iconst W0.here W0.hx rfl (hb hby at_1) q9_) ?_
  show Go p e below s Z [] _ _ _ (T0.setTop (mkF m 2 #[.val (.int p0), .val (.int p1), .val (.int p2), .val (.int p3), .unset, .unset, .unset, .unset, .unset, .unset, .unset, .unset, .unset] [(.int (1 : Int32)), (.int p0)]))
  refine Go.by (fun t9_ q9_ => XS.iand W0.here W0.hx rfl (hb hby at_2) rfl q9_) ?_
  show Go p e below s Z [] _ _ _ (T0.setTop (mkF m 3 #[.val (.int p0), .val (.int p1), .val (.int p2), .val (.int p3), .unset, .unset, .unset, .unset, .unset, .unset, .unset, .unset, .unset] [(.int (p0 &&& (1 : Int32)))]))
  obtain ⟨en, h_en⟩ : ∃ z : Int32, z = (if (p0 &&& (1 : Int32)) = (0 : Int32) then (0 : Int32) else (1 : Int32)) := ⟨_, rfl⟩
  have mg_en : ∀ t, Steps p.tables e below (T0.setTop (mkF m 11 #[.val (.int p0), .val (.int p1), .val (.int p2), .val (.int p3), .unset, .unset, .unset, .unset, .unset, .unset, .unset, .unset, .unset] [(.int en)])) t → Steps p.tables e below (T0.setTop (mkF m 3 #[.val (.int p0), .val (.int p1), .val (.int p2), .val (.int p3), .unset, .unset, .unset, .unset, .unset, .unset, .unset, .unset, .unset] [(.int (p0 &&& (1 : Int32)))])) t := by
    intro t q
    by_cases hm189 : (p0 &&& (1 : Int32)) = (0 : Int32)
    · refine XS.ifYes W0.here W0.hx rfl (pc0 := 3) (pc' := 10) rfl (hb hby at_3) rfl ((if0 _ _).trans (teq hm189).1) (by decide) (by decide) ?_
      show Steps p.tables e below (T0.setTop (mkF m 10 #[.val (.int p0), .val (.int p1), .val (.int p2), .val (.int p3), .unset, .unset, .unset, .unset, .unset, .unset, .unset, .unset, .unset] [])) _
      refine XS.iconst W0.here W0.hx rfl (hb hby at_10) ?_
      show Steps p.tables e below (T0.setTop (mkF m 11 #[.val (.int p0), .val (.int p1), .val (.int p2), .val (.int p3), .unset, .unset, .unset, .unset, .unset, .unset, .unset, .unset, .unset] [(.int (0 : Int32))])) _
      rw [if_pos hm189] at h_en
      subst h_en
      exact q
    · refine XS.ifNo W0.here W0.hx rfl (hb hby at_3) rfl ((if0 _ _).trans (feq hm189).1) ?_
      show Steps p.tables e below (T0.setTop (mkF m 6 #[.val (.int p0), .val (.int p1), .val (.int p2), .val (.int p3), .unset, .unset, .unset, .unset, .unset, .unset, .unset, .unset, .unset] [])) _
      refine XS.iconst W0.here W0.hx rfl (hb hby at_6) ?_
      show Steps p.tables e below (T0.setTop (mkF m 7 #[.val (.int p0), .val (.int p1), .val (.int p2), .val (.int p3), .unset, .unset, .unset, .unset, .unset, .unset, .unset, .unset, .unset] [(.int (1 : Int32))])) _
      refine XS.goto W0.here W0.hx rfl (pc0 := 7) (pc' := 11) rfl (hb hby at_7) (by decide) (by decide) ?_
      show Steps p.tables e below (T0.setTop (mkF m 11 #[.val (.int p0), .val (.int p1), .val (.int p2), .val (.int p3), .unset, .unset, .unset, .unset, .unset, .unset, .unset, .unset, .unset] [(.int (1 : Int32))])) _
      rw [if_neg hm189] at h_en
      subst h_en
      exact q
  refine Go.by mg_en ?_
  show Go p e below s Z [] _ _ _ (T0.setTop (mkF m 11 #[.val (.int p0), .val (.int p1), .val (.int p2), .val (.int p3), .unset, .unset, .unset, .unset, .unset, .unset, .unset, .unset, .unset] [(.int en)]))
  refine Go.by (fun t9_ q9_ => XS.istore W0.here W0.hx rfl (hb hby at_11) rfl (l' := #[.val (.int p0), .val (.int p1), .val (.int p2), .val (.int p3), .val (.int en), .unset, .unset, .unset, .unset, .unset, .unset, .unset, .unset]) rfl q9_) ?_
  show Go p e below s Z [] _ _ _ (T0.setTop (mkF m 13 #[.val (.int p0), .val (.int p1), .val (.int p2), .val (.int p3), .val (.int en), .unset, .unset, .unset, .unset, .unset, .unset, .unset, .unset] []))
  refine Go.by (fun t9_ q9_ => XS.iloadN W0.here W0.hx rfl (hb hby at_13) rfl q9_) ?_
  show Go p e below s Z [] _ _ _ (T0.setTop (mkF m 14 #[.val (.int p0), .val (.int p1), .val (.int p2), .val (.int p3), .val (.int en), .unset, .unset, .unset, .unset, .unset, .unset, .unset, .unset] [(.int p0)]))
  refine Go.by (fun t9_ q9_ => XS.iconst W0.here W0.hx rfl (hb hby at_14) q9_) ?_
  show Go p e below s Z [] _ _ _ (T0.setTop (mkF m 15 #[.val (.int p0), .val (.int p1), .val (.int p2), .val (.int p3), .val (.int en), .unset, .unset, .unset, .unset, .unset, .unset, .unset, .unset] [(.int (2 : Int32)), (.int p0)]))
  refine Go.by (fun t9_ q9_ => XS.iand W0.here W0.hx rfl (hb hby at_15) rfl q9_) ?_
  show Go p e below s Z [] _ _ _ (T0.setTop (mkF m 16 #[.val (.int p0), .val (.int p1), .val (.int p2), .val (.int p3), .val (.int en), .unset, .unset, .unset, .unset, .unset, .unset, .unset, .unset] [(.int (p0 &&& (2 : Int32)))]))
  obtain ⟨al, h_al⟩ : ∃ z : Int32, z = (if (p0 &&& (2 : Int32)) = (0 : Int32) then (0 : Int32) else (1 : Int32)) := ⟨_, rfl⟩
  have mg_al : ∀ t, Steps p.tables e below (T0.setTop (mkF m 24 #[.val (.int p0), .val (.int p1), .val (.int p2), .val (.int p3), .val (.int en), .unset, .unset, .unset, .unset, .unset, .unset, .unset, .unset] [(.int al)])) t → Steps p.tables e below (T0.setTop (mkF m 16 #[.val (.int p0), .val (.int p1), .val (.int p2), .val (.int p3), .val (.int en), .unset, .unset, .unset, .unset, .unset, .unset, .unset, .unset] [(.int (p0 &&& (2 : Int32)))])) t := by
    intro t q
    by_cases hm190 : (p0 &&& (2 : Int32)) = (0 : Int32)
    · refine XS.ifYes W0.here W0.hx rfl (pc0 := 16) (pc' := 23) rfl (hb hby at_16) rfl ((if0 _ _).trans (teq hm190).1) (by decide) (by decide) ?_
      show Steps p.tables e below (T0.setTop (mkF m 23 #[.val (.int p0), .val (.int p1), .val (.int p2), .val (.int p3), .val (.int en), .unset, .unset, .unset, .unset, .unset, .unset, .unset, .unset] [])) _
      refine XS.iconst W0.here W0.hx rfl (hb hby at_23) ?_
      show Steps p.tables e below (T0.setTop (mkF m 24 #[.val (.int p0), .val (.int p1), .val (.int p2), .val (.int p3), .val (.int en), .unset, .unset, .unset, .unset, .unset, .unset, .unset, .unset] [(.int (0 : Int32))])) _
      rw [if_pos hm190] at h_al
      subst h_al
      exact q
    · refine XS.ifNo W0.here W0.hx rfl (hb hby at_16) rfl ((if0 _ _).trans (feq hm190).1) ?_
      show Steps p.tables e below (T0.setTop (mkF m 19 #[.val (.int p0), .val (.int p1), .val (.int p2), .val (.int p3), .val (.int en), .unset, .unset, .unset, .unset, .unset, .unset, .unset, .unset] [])) _
      refine XS.iconst W0.here W0.hx rfl (hb hby at_19) ?_
      show Steps p.tables e below (T0.setTop (mkF m 20 #[.val (.int p0), .val (.int p1), .val (.int p2), .val (.int p3), .val (.int en), .unset, .unset, .unset, .unset, .unset, .unset, .unset, .unset] [(.int (1 : Int32))])) _
      refine XS.goto W0.here W0.hx rfl (pc0 := 20) (pc' := 24) rfl (hb hby at_20) (by decide) (by decide) ?_
      show Steps p.tables e below (T0.setTop (mkF m 24 #[.val (.int p0), .val (.int p1), .val (.int p2), .val (.int p3), .val (.int en), .unset, .unset, .unset, .unset, .unset, .unset, .unset, .unset] [(.int (1 : Int32))])) _
      rw [if_neg hm190] at h_al
      subst h_al
      exact q
  refine Go.by mg_al ?_
  show Go p e below s Z [] _ _ _ (T0.setTop (mkF m 24 #[.val (.int p0), .val (.int p1), .val (.int p2), .val (.int p3), .val (.int en), .unset, .unset, .unset, .unset, .unset, .unset, .unset, .unset] [(.int al)]))
  refine Go.by (fun t9_ q9_ => XS.istore W0.here W0.hx rfl (hb hby at_24) rfl (l' := #[.val (.int p0), .val (.int p1), .val (.int p2), .val (.int p3), .val (.int en), .val (.int al), .unset, .unset, .unset, .unset, .unset, .unset, .unset]) rfl q9_) ?_
  show Go p e below s Z [] _ _ _ (T0.setTop (mkF m 26 #[.val (.int p0), .val (.int p1), .val (.int p2), .val (.int p3), .val (.int en), .val (.int al), .unset, .unset, .unset, .unset, .unset, .unset, .unset] []))
  refine Go.by (fun t9_ q9_ => XS.iloadN W0.here W0.hx rfl (hb hby at_26) rfl q9_) ?_
  show Go p e below s Z [] _ _ _ (T0.setTop (mkF m 27 #[.val (.int p0), .val (.int p1), .val (.int p2), .val (.int p3), .val (.int en), .val (.int al), .unset, .unset, .unset, .unset, .unset, .unset, .unset] [(.int p0)]))
  refine Go.by (fun t9_ q9_ => XS.iconst W0.here W0.hx rfl (hb hby at_27) q9_) ?_
  show Go p e below s Z [] _ _ _ (T0.setTop (mkF m 28 #[.val (.int p0), .val (.int p1), .val (.int p2), .val (.int p3), .val (.int en), .val (.int al), .unset, .unset, .unset, .unset, .unset, .unset, .unset] [(.int (4 : Int32)), (.int p0)]))
  refine Go.by (fun t9_ q9_ => XS.iand W0.here W0.hx rfl (hb hby at_28) rfl q9_) ?_
  show Go p e below s Z [] _ _ _ (T0.setTop (mkF m 29 #[.val (.int p0), .val (.int p1), .val (.int p2), .val (.int p3), .val (.int en), .val (.int al), .unset, .unset, .unset, .unset, .unset, .unset, .unset] [(.int (p0 &&& (4 : Int32)))]))
  obtain ⟨cr, h_cr⟩ : ∃ z : Int32, z = (if (p0 &&& (4 : Int32)) = (0 : Int32) then (0 : Int32) else (1 : Int32)) := ⟨_, rfl⟩
  have mg_cr : ∀ t, Steps p.tables e below (T0.setTop (mkF m 37 #[.val (.int p0), .val (.int p1), .val (.int p2), .val (.int p3), .val (.int en), .val (.int al), .unset, .unset, .unset, .unset, .unset, .unset, .unset] [(.int cr)])) t → Steps p.tables e below (T0.setTop (mkF m 29 #[.val (.int p0), .val (.int p1), .val (.int p2), .val (.int p3), .val (.int en), .val (.int al), .unset, .unset, .unset, .unset, .unset, .unset, .unset] [(.int (p0 &&& (4 : Int32)))])) t := by
    intro t q
    by_cases hm191 : (p0 &&& (4 : Int32)) = (0 : Int32)
    · refine XS.ifYes W0.here W0.hx rfl (pc0 := 29) (pc' := 36) rfl (hb hby at_29) rfl ((if0 _ _).trans (teq hm191).1) (by decide) (by decide) ?_
      show Steps p.tables e below (T0.setTop (mkF m 36 #[.val (.int p0), .val (.int p1), .val (.int p2), .val (.int p3), .val (.int en), .val (.int al), .unset, .unset, .unset, .unset, .unset, .unset, .unset] [])) _
      refine XS.iconst W0.here W0.hx rfl (hb hby at_36) ?_
      show Steps p.tables e below (T0.setTop (mkF m 37 #[.val (.int p0), .val (.int p1), .val (.int p2), .val (.int p3), .val (.int en), .val (.int al), .unset, .unset, .unset, .unset, .unset, .unset, .unset] [(.int (0 : Int32))])) _
      rw [if_pos hm191] at h_cr
      subst h_cr
      exact q
    · refine XS.ifNo W0.here W0.hx rfl (hb hby at_29) rfl ((if0 _ _).trans (feq hm191).1) ?_
      show Steps p.tables e below (T0.setTop (mkF m 32 #[.val (.int p0), .val (.int p1), .val (.int p2), .val (.int p3), .val (.int en), .val (.int al), .unset, .unset, .unset, .unset, .unset, .unset, .unset] [])) _
      refine XS.iconst W0.here W0.hx rfl (hb hby at_32) ?_
      show Steps p.tables e below (T0.setTop (mkF m 33 #[.val (.int p0), .val (.int p1), .val (.int p2), .val (.int p3), .val (.int en), .val (.int al), .unset, .unset, .unset, .unset, .unset, .unset, .unset] [(.int (1 : Int32))])) _
      refine XS.goto W0.here W0.hx rfl (pc0 := 33) (pc' := 37) rfl (hb hby at_33) (by decide) (by decide) ?_
      show Steps p.tables e below (T0.setTop (mkF m 37 #[.val (.int p0), .val (.int p1), .val (.int p2), .val (.int p3), .val (.int en), .val (.int al), .unset, .unset, .unset, .unset, .unset, .unset, .unset] [(.int (1 : Int32))])) _
      rw [if_neg hm191] at h_cr
      subst h_cr
      exact q
  refine Go.by mg_cr ?_
  show Go p e below s Z [] _ _ _ (T0.setTop (mkF m 37 #[.val (.int p0), .val (.int p1), .val (.int p2), .val (.int p3), .val (.int en), .val (.int al), .unset, .unset, .unset, .unset, .unset, .unset, .unset] [(.int cr)]))
  have hcr01 : cr = 0 ∨ cr = 1 := by rw [h_cr]; split <;> simp
  clear h_cr h_en h_al mg_cr mg_en mg_al
  refine Go.by (fun t9_ q9_ => XS.istore W0.here W0.hx rfl (hb hby at_37) rfl (l' := #[.val (.int p0), .val (.int p1), .val (.int p2), .val (.int p3), .val (.int en), .val (.int al), .val (.int cr), .unset, .unset, .unset, .unset, .unset, .unset]) rfl q9_) ?_
  show Go p e below s Z [] _ _ _ (T0.setTop (mkF m 39 #[.val (.int p0), .val (.int p1), .val (.int p2), .val (.int p3), .val (.int en), .val (.int al), .val (.int cr), .unset, .unset, .unset, .unset, .unset, .unset] []))
  refine Go.by (fun t9_ q9_ => XS.iconst W0.here W0.hx rfl (hb hby at_39) q9_) ?_
  show Go p e below s Z [] _ _ _ (T0.setTop (mkF m 40 #[.val (.int p0), .val (.int p1), .val (.int p2), .val (.int p3), .val (.int en), .val (.int al), .val (.int cr), .unset, .unset, .unset, .unset, .unset, .unset] [(.int (2 : Int32))]))
  refine W0.newp (aty := .char) (wd0 hw) (hb hby at_40) (by decide) (cap := 2) (by decide) (by decide) (k' := 1) (n' := 2) rfl rfl (by decide) (by decide) (ad := "[C") rfl ?_
  intro T192 h193 b0 k_b0 W194 E195 g_b0 z_b0 A_b0 V_b0
  have V1_b0 : Arv Z h193 b0 k_b0 .char (2 : Int32) [(.int (0 : Int32)), (.int (0 : Int32))] (.int (0 : Int32)) := V_b0.pad (pad_rep [] (.int (0 : Int32)) 2)
  show Go p e below s Z [] _ _ _ (T192.setTop (mkF m 42 #[.val (.int p0), .val (.int p1), .val (.int p2), .val (.int p3), .val (.int en), .val (.int al), .val (.int cr), .unset, .unset, .unset, .unset, .unset, .unset] [(.ref b0)]))
  refine Go.by (fun t9_ q9_ => XS.dup W194.here W194.hx rfl (hb hby at_42) rfl rfl q9_) ?_
  show Go p e below s Z [] _ _ _ (T192.setTop (mkF m 43 #[.val (.int p0), .val (.int p1), .val (.int p2), .val (.int p3), .val (.int en), .val (.int al), .val (.int cr), .unset, .unset, .unset, .unset, .unset, .unset] [(.ref b0), (.ref b0)]))
  refine Go.by (fun t9_ q9_ => XS.iconst W194.here W194.hx rfl (hb hby at_43) q9_) ?_
  show Go p e below s Z [] _ _ _ (T192.setTop (mkF m 44 #[.val (.int p0), .val (.int p1), .val (.int p2), .val (.int p3), .val (.int en), .val (.int al), .val (.int cr), .unset, .unset, .unset, .unset, .unset, .unset] [(.int (0 : Int32)), (.ref b0), (.ref b0)]))
  refine Go.by (fun t9_ q9_ => XS.iloadN W194.here W194.hx rfl (hb hby at_44) rfl q9_) ?_
  show Go p e below s Z [] _ _ _ (T192.setTop (mkF m 45 #[.val (.int p0), .val (.int p1), .val (.int p2), .val (.int p3), .val (.int en), .val (.int al), .val (.int cr), .unset, .unset, .unset, .unset, .unset, .unset] [(.int p1), (.int (0 : Int32)), (.ref b0), (.ref b0)]))
  refine Go.by (fun t9_ q9_ => XS.sipush W194.here W194.hx rfl (hb hby at_45) q9_) ?_
  show Go p e below s Z [] _ _ _ (T192.setTop (mkF m 48 #[.val (.int p0), .val (.int p1), .val (.int p2), .val (.int p3), .val (.int en), .val (.int al), .val (.int cr), .unset, .unset, .unset, .unset, .unset, .unset] [(.int (255 : Int32)), (.int p1), (.int (0 : Int32)), (.ref b0), (.ref b0)]))
  refine Go.by (fun t9_ q9_ => XS.iand W194.here W194.hx rfl (hb hby at_48) rfl q9_) ?_
  show Go p e below s Z [] _ _ _ (T192.setTop (mkF m 49 #[.val (.int p0), .val (.int p1), .val (.int p2), .val (.int p3), .val (.int en), .val (.int al), .val (.int cr), .unset, .unset, .unset, .unset, .unset, .unset] [(.int (p1 &&& (255 : Int32))), (.int (0 : Int32)), (.ref b0), (.ref b0)]))
  refine Go.by (fun t9_ q9_ => XS.i2c W194.here W194.hx rfl (hb hby at_49) rfl q9_) ?_
  show Go p e below s Z [] _ _ _ (T192.setTop (mkF m 50 #[.val (.int p0), .val (.int p1), .val (.int p2), .val (.int p3), .val (.int en), .val (.int al), .val (.int cr), .unset, .unset, .unset, .unset, .unset, .unset] [(.int ((p1 &&& (255 : Int32)).toUInt32.toUInt16.toUInt32.toInt32)), (.int (0 : Int32)), (.ref b0), (.ref b0)]))
  refine W194.cast_ V1_b0 ⟨by decide, by decide⟩ (i := 0) rfl (by simp) (v' := ((p1 &&& (255 : Int32)).toUInt32.toUInt16.toUInt32.toInt32)) (k_nar _) z_b0 (List.mem_of_getElem? (i := 0) rfl) (hb hby at_50) ?_
  intro T196 h197 W198 Wr199 V200_b0'
  have V200_b0 : Arv Z h197 b0 k_b0 .char (2 : Int32) [(.int ((p1 &&& (255 : Int32)).toUInt32.toUInt16.toUInt32.toInt32)), (.int (0 : Int32))] (.int (0 : Int32)) := V200_b0'
  show Go p e below s Z [] _ _ _ (T196.setTop (mkF m 51 #[.val (.int p0), .val (.int p1), .val (.int p2), .val (.int p3), .val (.int en), .val (.int al), .val (.int cr), .unset, .unset, .unset, .unset, .unset, .unset] [(.ref b0)]))
  refine Go.by (fun t9_ q9_ => XS.dup W198.here W198.hx rfl (hb hby at_51) rfl rfl q9_) ?_
  show Go p e below s Z [] _ _ _ (T196.setTop (mkF m 52 #[.val (.int p0), .val (.int p1), .val (.int p2), .val (.int p3), .val (.int en), .val (.int al), .val (.int cr), .unset, .unset, .unset, .unset, .unset, .unset] [(.ref b0), (.ref b0)]))
  refine Go.by (fun t9_ q9_ => XS.iconst W198.here W198.hx rfl (hb hby at_52) q9_) ?_
  show Go p e below s Z [] _ _ _ (T196.setTop (mkF m 53 #[.val (.int p0), .val (.int p1), .val (.int p2), .val (.int p3), .val (.int en), .val (.int al), .val (.int cr), .unset, .unset, .unset, .unset, .unset, .unset] [(.int (1 : Int32)), (.ref b0), (.ref b0)]))
  refine Go.by (fun t9_ q9_ => XS.iloadN W198.here W198.hx rfl (hb hby at_53) rfl q9_) ?_
  show Go p e below s Z [] _ _ _ (T196.setTop (mkF m 54 #[.val (.int p0), .val (.int p1), .val (.int p2), .val (.int p3), .val (.int en), .val (.int al), .val (.int cr), .unset, .unset, .unset, .unset, .unset, .unset] [(.int p2), (.int (1 : Int32)), (.ref b0), (.ref b0)]))
  refine Go.by (fun t9_ q9_ => XS.sipush W198.here W198.hx rfl (hb hby at_54) q9_) ?_
  show Go p e below s Z [] _ _ _ (T196.setTop (mkF m 57 #[.val (.int p0), .val (.int p1), .val (.int p2), .val (.int p3), .val (.int en), .val (.int al), .val (.int cr), .unset, .unset, .unset, .unset, .unset, .unset] [(.int (255 : Int32)), (.int p2), (.int (1 : Int32)), (.ref b0), (.ref b0)]))
  refine Go.by (fun t9_ q9_ => XS.iand W198.here W198.hx rfl (hb hby at_57) rfl q9_) ?_
  show Go p e below s Z [] _ _ _ (T196.setTop (mkF m 58 #[.val (.int p0), .val (.int p1), .val (.int p2), .val (.int p3), .val (.int en), .val (.int al), .val (.int cr), .unset, .unset, .unset, .unset, .unset, .unset] [(.int (p2 &&& (255 : Int32))), (.int (1 : Int32)), (.ref b0), (.ref b0)]))
  refine Go.by (fun t9_ q9_ => XS.i2c W198.here W198.hx rfl (hb hby at_58) rfl q9_) ?_
  show Go p e below s Z [] _ _ _ (T196.setTop (mkF m 59 #[.val (.int p0), .val (.int p1), .val (.int p2), .val (.int p3), .val (.int en), .val (.int al), .val (.int cr), .unset, .unset, .unset, .unset, .unset, .unset] [(.int ((p2 &&& (255 : Int32)).toUInt32.toUInt16.toUInt32.toInt32)), (.int (1 : Int32)), (.ref b0), (.ref b0)]))
  refine W198.cast_ V200_b0 ⟨by decide, by decide⟩ (i := 1) rfl (by simp) (v' := ((p2 &&& (255 : Int32)).toUInt32.toUInt16.toUInt32.toInt32)) (k_nar _) z_b0 (List.mem_of_getElem? (i := 0) rfl) (hb hby at_59) ?_
  intro T201 h202 W203 Wr204 V205_b0'
  have V205_b0 : Arv Z h202 b0 k_b0 .char (2 : Int32) [(.int ((p1 &&& (255 : Int32)).toUInt32.toUInt16.toUInt32.toInt32)), (.int ((p2 &&& (255 : Int32)).toUInt32.toUInt16.toUInt32.toInt32))] (.int (0 : Int32)) := V205_b0'
  show Go p e below s Z [] _ _ _ (T201.setTop (mkF m 60 #[.val (.int p0), .val (.int p1), .val (.int p2), .val (.int p3), .val (.int en), .val (.int al), .val (.int cr), .unset, .unset, .unset, .unset, .unset, .unset] [(.ref b0)]))
  refine Go.by (fun t9_ q9_ => XS.astore W203.here W203.hx rfl (hb hby at_60) rfl rfl (l' := #[.val (.int p0), .val (.int p1), .val (.int p2), .val (.int p3), .val (.int en), .val (.int al), .val (.int cr), .val (.ref b0), .unset, .unset, .unset, .unset, .unset]) rfl q9_) ?_
  show Go p e below s Z [] _ _ _ (T201.setTop (mkF m 62 #[.val (.int p0), .val (.int p1), .val (.int p2), .val (.int p3), .val (.int en), .val (.int al), .val (.int cr), .val (.ref b0), .unset, .unset, .unset, .unset, .unset] []))
  refine Go.by (fun t9_ q9_ => XS.iload W203.here W203.hx rfl (hb hby at_62) rfl q9_) ?_
  show Go p e below s Z [] _ _ _ (T201.setTop (mkF m 64 #[.val (.int p0), .val (.int p1), .val (.int p2), .val (.int p3), .val (.int en), .val (.int al), .val (.int cr), .val (.ref b0), .unset, .unset, .unset, .unset, .unset] [(.int en)]))
  by_cases hen : en = (0 : Int32)
  · refine Go.by (fun t9_ q9_ => XS.ifYes W203.here W203.hx rfl (pc0 := 64) (pc' := 79) rfl (hb hby at_64) rfl ((if0 _ _).trans (teq hen).1) (by decide) (by decide) q9_) ?_
    show Go p e below s Z [] _ _ _ (T201.setTop (mkF m 79 #[.val (.int p0), .val (.int p1), .val (.int p2), .val (.int p3), .val (.int en), .val (.int al), .val (.int cr), .val (.ref b0), .unset, .unset, .unset, .unset, .unset] []))
    refine Go.by (fun t9_ q9_ => XS.aconstNull W203.here W203.hx rfl (hb hby at_79) q9_) ?_
    show Go p e below s Z [] _ _ _ (T201.setTop (mkF m 80 #[.val (.int p0), .val (.int p1), .val (.int p2), .val (.int p3), .val (.int en), .val (.int al), .val (.int cr), .val (.ref b0), .unset, .unset, .unset, .unset, .unset] [.null]))
    refine Go.by (fun t9_ q9_ => XS.astore W203.here W203.hx rfl (hb hby at_80) rfl rfl (l' := #[.val (.int p0), .val (.int p1), .val (.int p2), .val (.int p3), .val (.int en), .val (.int al), .val (.int cr), .val (.ref b0), .val .null, .unset, .unset, .unset, .unset]) rfl q9_) ?_
    show Go p e below s Z [] _ _ _ (T201.setTop (mkF m 82 #[.val (.int p0), .val (.int p1), .val (.int p2), .val (.int p3), .val (.int en), .val (.int al), .val (.int cr), .val (.ref b0), .val .null, .unset, .unset, .unset, .unset] []))
    refine Go.by (fun t9_ q9_ => XS.iload W203.here W203.hx rfl (hb hby at_82) rfl q9_) ?_
    show Go p e below s Z [] _ _ _ (T201.setTop (mkF m 84 #[.val (.int p0), .val (.int p1), .val (.int p2), .val (.int p3), .val (.int en), .val (.int al), .val (.int cr), .val (.ref b0), .val .null, .unset, .unset, .unset, .unset] [(.int al)]))
    by_cases hal : al = (0 : Int32)
    · refine Go.by (fun t9_ q9_ => XS.ifYes W203.here W203.hx rfl (pc0 := 84) (pc' := 93) rfl (hb hby at_84) rfl ((if0 _ _).trans (teq hal).1) (by decide) (by decide) q9_) ?_
      show Go p e below s Z [] _ _ _ (T201.setTop (mkF m 93 #[.val (.int p0), .val (.int p1), .val (.int p2), .val (.int p3), .val (.int en), .val (.int al), .val (.int cr), .val (.ref b0), .val .null, .unset, .unset, .unset, .unset] []))
      refine W203.gets (host := "") (Or.inl (wd1 hw)) Via.refl (SW.ext W203.old) (hb hby at_93) ?_
      intro T206 W207
      show Go p e below s Z [] _ _ _ (T206.setTop (mkF m 96 #[.val (.int p0), .val (.int p1), .val (.int p2), .val (.int p3), .val (.int en), .val (.int al), .val (.int cr), .val (.ref b0), .val .null, .unset, .unset, .unset, .unset] [(.ref aW)]))
      refine Go.by (fun t9_ q9_ => XS.astore W207.here W207.hx rfl (hb hby at_96) rfl rfl (l' := #[.val (.int p0), .val (.int p1), .val (.int p2), .val (.int p3), .val (.int en), .val (.int al), .val (.int cr), .val (.ref b0), .val .null, .val (.ref aW), .unset, .unset, .unset]) rfl q9_) ?_
      show Go p e below s Z [] _ _ _ (T206.setTop (mkF m 98 #[.val (.int p0), .val (.int p1), .val (.int p2), .val (.int p3), .val (.int en), .val (.int al), .val (.int cr), .val (.ref b0), .val .null, .val (.ref aW), .unset, .unset, .unset] []))
      refine W207.new (wd4 hw) (wd5 hw) (wd6 hw) (hb hby at_98) (k' := 2) (n' := 5) rfl rfl (by decide) (by decide) ?_
      intro T208 h209 li W210 E211 g_li z_li A_li D_li
      have F_modCount_li : Fld Z h209 li "java/util/AbstractList" "modCount" "I" (.int (0 : Int32)) := D_li (Or.inl (wd26 hw)) (ty := .int) (by decide)
      have F_elementData_li : Fld Z h209 li "java/util/ArrayList" "elementData" "[Ljava/lang/Object;" .null := D_li (Or.inl (wd29 hw)) (ty := (.array (.object "java/lang/Object"))) (by decide)
      have F_size_li : Fld Z h209 li "java/util/ArrayList" "size" "I" (.int (0 : Int32)) := D_li (Or.inl (wd62 hw)) (ty := .int) (by decide)
      show Go p e below s Z [] _ _ _ (T208.setTop (mkF m 101 #[.val (.int p0), .val (.int p1), .val (.int p2), .val (.int p3), .val (.int en), .val (.int al), .val (.int cr), .val (.ref b0), .val .null, .val (.ref aW), .unset, .unset, .unset] [(.ref li)]))
      refine Go.by (fun t9_ q9_ => XS.dup W210.here W210.hx rfl (hb hby at_101) rfl rfl q9_) ?_
      show Go p e below s Z [] _ _ _ (T208.setTop (mkF m 102 #[.val (.int p0), .val (.int p1), .val (.int p2), .val (.int p3), .val (.int en), .val (.int al), .val (.int cr), .val (.ref b0), .val .null, .val (.ref aW), .unset, .unset, .unset] [(.ref li), (.ref li)]))
      refine W210.callI (y := (⟨"java/util/ArrayList", "<init>", "()V"⟩ : MethodName)) rfl (wd7 hw) (wd8 hw) (wd6 hw) (wd9 hw) (by decide) (a := li) (c_alinit l Z a0 hw hEL h209 W210.old li dd A_li F_modCount_li F_elementData_li z_li F_size_li SD) (allS (List.mem_of_getElem? (i := 0) rfl) all0) (by decide) (by decide) (k' := 2) (n' := 5) rfl rfl (by decide) (by decide) (by rw [hml]; rfl) (argsL := []) (rest := [(.ref li)]) (lenOf pd_3 rfl) rfl rfl (Wt := 1) (Nat.le_of_eq rfl) (hb hby at_102) ?_
      intro v_ T212 h214 W213 hq_
      obtain ⟨rfl, K3, g1, g2, g3, g4⟩ := hq_
      show Go p e below s Z [] _ _ _ (T212.setTop (mkF m 105 #[.val (.int p0), .val (.int p1), .val (.int p2), .val (.int p3), .val (.int en), .val (.int al), .val (.int cr), .val (.ref b0), .val .null, .val (.ref aW), .unset, .unset, .unset] [(.ref li)]))
      refine Go.by (fun t9_ q9_ => XS.astore W213.here W213.hx rfl (hb hby at_105) rfl rfl (l' := #[.val (.int p0), .val (.int p1), .val (.int p2), .val (.int p3), .val (.int en), .val (.int al), .val (.int cr), .val (.ref b0), .val .null, .val (.ref aW), .val (.ref li), .unset, .unset]) rfl q9_) ?_
      show Go p e below s Z [] _ _ _ (T212.setTop (mkF m 107 #[.val (.int p0), .val (.int p1), .val (.int p2), .val (.int p3), .val (.int en), .val (.int al), .val (.int cr), .val (.ref b0), .val .null, .val (.ref aW), .val (.ref li), .unset, .unset] []))
      refine Go.by (fun t9_ q9_ => XS.aload W213.here W213.hx rfl (hb hby at_107) rfl rfl q9_) ?_
      show Go p e below s Z [] _ _ _ (T212.setTop (mkF m 109 #[.val (.int p0), .val (.int p1), .val (.int p2), .val (.int p3), .val (.int en), .val (.int al), .val (.int cr), .val (.ref b0), .val .null, .val (.ref aW), .val (.ref li), .unset, .unset] [(.ref li)]))
      refine Go.by (fun t9_ q9_ => XS.iloadN W213.here W213.hx rfl (hb hby at_109) rfl q9_) ?_
      show Go p e below s Z [] _ _ _ (T212.setTop (mkF m 110 #[.val (.int p0), .val (.int p1), .val (.int p2), .val (.int p3), .val (.int en), .val (.int al), .val (.int cr), .val (.ref b0), .val .null, .val (.ref aW), .val (.ref li), .unset, .unset] [(.int p3), (.ref li)]))
      refine Go.by (fun t9_ q9_ => XS.sipush W213.here W213.hx rfl (hb hby at_110) q9_) ?_
      show Go p e below s Z [] _ _ _ (T212.setTop (mkF m 113 #[.val (.int p0), .val (.int p1), .val (.int p2), .val (.int p3), .val (.int en), .val (.int al), .val (.int cr), .val (.ref b0), .val .null, .val (.ref aW), .val (.ref li), .unset, .unset] [(.int (255 : Int32)), (.int p3), (.ref li)]))
      refine Go.by (fun t9_ q9_ => XS.iand W213.here W213.hx rfl (hb hby at_113) rfl q9_) ?_
      show Go p e below s Z [] _ _ _ (T212.setTop (mkF m 114 #[.val (.int p0), .val (.int p1), .val (.int p2), .val (.int p3), .val (.int en), .val (.int al), .val (.int cr), .val (.ref b0), .val .null, .val (.ref aW), .val (.ref li), .unset, .unset] [(.int (p3 &&& (255 : Int32))), (.ref li)]))
      refine Go.by (fun t9_ q9_ => XS.i2c W213.here W213.hx rfl (hb hby at_114) rfl q9_) ?_
      show Go p e below s Z [] _ _ _ (T212.setTop (mkF m 115 #[.val (.int p0), .val (.int p1), .val (.int p2), .val (.int p3), .val (.int en), .val (.int al), .val (.int cr), .val (.ref b0), .val .null, .val (.ref aW), .val (.ref li), .unset, .unset] [(.int ((p3 &&& (255 : Int32)).toUInt32.toUInt16.toUInt32.toInt32)), (.ref li)]))
      refine W213.callS (y := (⟨"java/lang/String", "valueOf", "(C)Ljava/lang/String;"⟩ : MethodName)) (wd30 hw) (wd31 hw) (wd32 hw) (wd33 hw) (by decide) (c_valueof l Z a0 hw hEL h214 W213.old G1 _ SG1 hG (k_mask _).1 (k_mask _).2) all0 (by decide) (by decide) (k' := 4) (n' := 10) rfl rfl (by decide) (by decide) (by rw [hml]; rfl) (argsL := [(.int ((p3 &&& (255 : Int32)).toUInt32.toUInt16.toUInt32.toInt32))]) (rest := [(.ref li)]) (lenOf pd_9 rfl) rfl rfl (Wt := 1) (Nat.le_of_eq rfl) (hb hby at_115) ?_
      intro v_ T215 h217 W216 hq_
      obtain ⟨s1, rfl, X2, S_s1⟩ := hq_
      show Go p e below s Z [] _ _ _ (T215.setTop (mkF m 118 #[.val (.int p0), .val (.int p1), .val (.int p2), .val (.int p3), .val (.int en), .val (.int al), .val (.int cr), .val (.ref b0), .val .null, .val (.ref aW), .val (.ref li), .unset, .unset] [(.ref s1), (.ref li)]))
      refine W216.callV (y := (⟨"java/util/ArrayList", "add", "(Ljava/lang/Object;)Z"⟩ : MethodName)) (z := (⟨"java/util/ArrayList", "add", "(Ljava/lang/Object;)Z"⟩ : MethodName)) (wd54 hw) (wd55 hw) (nf_sel rfl (wd57 hw)) (wd57 hw) (wd56 hw) (wd6 hw) (wd58 hw) (by decide) (g1.ext X2) (a := li) (c_add1 l Z a0 hw hEL h217 W216.old li dd kd 0 s1 (g1.ext X2) (g2.ext X2) (g3.ext X2) (g4.ext X2) z_li SD DA S_s1.exa) (allS (List.mem_of_getElem? (i := 0) rfl) all0) (by decide) (by decide) (k' := 5) (n' := 20) rfl rfl (by decide) (by decide) (by rw [hml]; rfl) (argsL := [(.ref s1)]) (rest := []) (lenOf pd_10 rfl) rfl rfl (Wt := 0) (Nat.le_of_eq rfl) (hb hby at_118) ?_
      intro v_ T218 h220 W219 hq_
      obtain ⟨rfl, K5⟩ := hq_
      show Go p e below s Z [] _ _ _ (T218.setTop (mkF m 121 #[.val (.int p0), .val (.int p1), .val (.int p2), .val (.int p3), .val (.int en), .val (.int al), .val (.int cr), .val (.ref b0), .val .null, .val (.ref aW), .val (.ref li), .unset, .unset] [(.int (1 : Int32))]))
      refine Go.by (fun t9_ q9_ => XS.pop W219.here W219.hx rfl (hb hby at_121) rfl rfl q9_) ?_
      show Go p e below s Z [] _ _ _ (T218.setTop (mkF m 122 #[.val (.int p0), .val (.int p1), .val (.int p2), .val (.int p3), .val (.int en), .val (.int al), .val (.int cr), .val (.ref b0), .val .null, .val (.ref aW), .val (.ref li), .unset, .unset] []))
      refine W219.new (wd85 hw) (wd86 hw) (wd87 hw) (hb hby at_122) (k' := 6) (n' := 25) rfl rfl (by decide) (by decide) ?_
      intro T221 h222 us W223 E224 g_us z_us A_us D_us
      have F_username_us : Fld Z h222 us "com/example/secondkey/secondkey/config/Config$User" "username" "Ljava/lang/String;" .null := D_us (Or.inr (wd101 hw)) (ty := (.object "java/lang/String")) (by decide)
      have F_password_us : Fld Z h222 us "com/example/secondkey/secondkey/config/Config$User" "password" "Ljava/lang/String;" .null := D_us (Or.inr (wd103 hw)) (ty := (.object "java/lang/String")) (by decide)
      have F_roles_us : Fld Z h222 us "com/example/secondkey/secondkey/config/Config$User" "roles" "Ljava/util/List;" .null := D_us (Or.inr (wd105 hw)) (ty := (.object "java/util/List")) (by decide)
      have F_totpSecret_us : Fld Z h222 us "com/example/secondkey/secondkey/config/Config$User" "totpSecret" "Ljava/lang/String;" .null := D_us (Or.inr (wd107 hw)) (ty := (.object "java/lang/String")) (by decide)
      have F_secondFactor_us : Fld Z h222 us "com/example/secondkey/secondkey/config/Config$User" "secondFactor" "Lcom/example/secondkey/secondkey/config/Config$SecondFactor;" .null := D_us (Or.inr (wd109 hw)) (ty := (.object "com/example/secondkey/secondkey/config/Config$SecondFactor")) (by decide)
      show Go p e below s Z [] _ _ _ (T221.setTop (mkF m 125 #[.val (.int p0), .val (.int p1), .val (.int p2), .val (.int p3), .val (.int en), .val (.int al), .val (.int cr), .val (.ref b0), .val .null, .val (.ref aW), .val (.ref li), .unset, .unset] [(.ref us)]))
      refine Go.by (fun t9_ q9_ => XS.dup W223.here W223.hx rfl (hb hby at_125) rfl rfl q9_) ?_
      show Go p e below s Z [] _ _ _ (T221.setTop (mkF m 126 #[.val (.int p0), .val (.int p1), .val (.int p2), .val (.int p3), .val (.int en), .val (.int al), .val (.int cr), .val (.ref b0), .val .null, .val (.ref aW), .val (.ref li), .unset, .unset] [(.ref us), (.ref us)]))
      refine Go.by (fun t9_ q9_ => XS.iloadN W223.here W223.hx rfl (hb hby at_126) rfl q9_) ?_
      show Go p e below s Z [] _ _ _ (T221.setTop (mkF m 127 #[.val (.int p0), .val (.int p1), .val (.int p2), .val (.int p3), .val (.int en), .val (.int al), .val (.int cr), .val (.ref b0), .val .null, .val (.ref aW), .val (.ref li), .unset, .unset] [(.int p3), (.ref us), (.ref us)]))
      refine Go.by (fun t9_ q9_ => XS.bipush W223.here W223.hx rfl (hb hby at_127) q9_) ?_
      show Go p e below s Z [] _ _ _ (T221.setTop (mkF m 129 #[.val (.int p0), .val (.int p1), .val (.int p2), .val (.int p3), .val (.int en), .val (.int al), .val (.int cr), .val (.ref b0), .val .null, .val (.ref aW), .val (.ref li), .unset, .unset] [(.int (8 : Int32)), (.int p3), (.ref us), (.ref us)]))
      refine Go.by (fun t9_ q9_ => XS.iushr W223.here W223.hx rfl (hb hby at_129) rfl q9_) ?_
      show Go p e below s Z [] _ _ _ (T221.setTop (mkF m 130 #[.val (.int p0), .val (.int p1), .val (.int p2), .val (.int p3), .val (.int en), .val (.int al), .val (.int cr), .val (.ref b0), .val .null, .val (.ref aW), .val (.ref li), .unset, .unset] [(.int ((p3.toUInt32 >>> ((8 : Int32) &&& 31).toUInt32).toInt32)), (.ref us), (.ref us)]))
      refine Go.by (fun t9_ q9_ => XS.sipush W223.here W223.hx rfl (hb hby at_130) q9_) ?_
      show Go p e below s Z [] _ _ _ (T221.setTop (mkF m 133 #[.val (.int p0), .val (.int p1), .val (.int p2), .val (.int p3), .val (.int en), .val (.int al), .val (.int cr), .val (.ref b0), .val .null, .val (.ref aW), .val (.ref li), .unset, .unset] [(.int (255 : Int32)), (.int ((p3.toUInt32 >>> ((8 : Int32) &&& 31).toUInt32).toInt32)), (.ref us), (.ref us)]))
      refine Go.by (fun t9_ q9_ => XS.iand W223.here W223.hx rfl (hb hby at_133) rfl q9_) ?_
      show Go p e below s Z [] _ _ _ (T221.setTop (mkF m 134 #[.val (.int p0), .val (.int p1), .val (.int p2), .val (.int p3), .val (.int en), .val (.int al), .val (.int cr), .val (.ref b0), .val .null, .val (.ref aW), .val (.ref li), .unset, .unset] [(.int (((p3.toUInt32 >>> ((8 : Int32) &&& 31).toUInt32).toInt32) &&& (255 : Int32))), (.ref us), (.ref us)]))
      refine Go.by (fun t9_ q9_ => XS.i2c W223.here W223.hx rfl (hb hby at_134) rfl q9_) ?_
      show Go p e below s Z [] _ _ _ (T221.setTop (mkF m 135 #[.val (.int p0), .val (.int p1), .val (.int p2), .val (.int p3), .val (.int en), .val (.int al), .val (.int cr), .val (.ref b0), .val .null, .val (.ref aW), .val (.ref li), .unset, .unset] [(.int ((((p3.toUInt32 >>> ((8 : Int32) &&& 31).toUInt32).toInt32) &&& (255 : Int32)).toUInt32.toUInt16.toUInt32.toInt32)), (.ref us), (.ref us)]))
      refine W223.callS (y := (⟨"java/lang/String", "valueOf", "(C)Ljava/lang/String;"⟩ : MethodName)) (wd30 hw) (wd31 hw) (wd32 hw) (wd33 hw) (by decide) (c_valueof l Z a0 hw hEL h222 W223.old G1 _ SG1 hG (k_mask _).1 (k_mask _).2) all0 (by decide) (by decide) (k' := 8) (n' := 30) rfl rfl (by decide) (by decide) (by rw [hml]; rfl) (argsL := [(.int ((((p3.toUInt32 >>> ((8 : Int32) &&& 31).toUInt32).toInt32) &&& (255 : Int32)).toUInt32.toUInt16.toUInt32.toInt32))]) (rest := [(.ref us), (.ref us)]) (lenOf pd_9 rfl) rfl rfl (Wt := 2) (Nat.le_of_eq rfl) (hb hby at_135) ?_
      intro v_ T225 h227 W226 hq_
      obtain ⟨s2, rfl, X6, S_s2⟩ := hq_
      show Go p e below s Z [] _ _ _ (T225.setTop (mkF m 138 #[.val (.int p0), .val (.int p1), .val (.int p2), .val (.int p3), .val (.int en), .val (.int al), .val (.int cr), .val (.ref b0), .val .null, .val (.ref aW), .val (.ref li), .unset, .unset] [(.ref s2), (.ref us), (.ref us)]))
      refine W226.ldcO (wd88 hw) (k_sa hw) (hb hby at_138) (q := 8) (by decide +kernel) (by decide) (k' := 10) (n' := 42) rfl rfl (by decide) (by decide) ?_
      intro T228 h229 pw W230 E231
      show Go p e below s Z [] _ _ _ (T228.setTop (mkF m 140 #[.val (.int p0), .val (.int p1), .val (.int p2), .val (.int p3), .val (.int en), .val (.int al), .val (.int cr), .val (.ref b0), .val .null, .val (.ref aW), .val (.ref li), .unset, .unset] [(.ref pw), (.ref s2), (.ref us), (.ref us)]))
      refine Go.by (fun t9_ q9_ => XS.aload W230.here W230.hx rfl (hb hby at_140) rfl rfl q9_) ?_
      show Go p e below s Z [] _ _ _ (T228.setTop (mkF m 142 #[.val (.int p0), .val (.int p1), .val (.int p2), .val (.int p3), .val (.int en), .val (.int al), .val (.int cr), .val (.ref b0), .val .null, .val (.ref aW), .val (.ref li), .unset, .unset] [(.ref li), (.ref pw), (.ref s2), (.ref us), (.ref us)]))
      refine Go.by (fun t9_ q9_ => XS.aload W230.here W230.hx rfl (hb hby at_142) rfl rfl q9_) ?_
      show Go p e below s Z [] _ _ _ (T228.setTop (mkF m 144 #[.val (.int p0), .val (.int p1), .val (.int p2), .val (.int p3), .val (.int en), .val (.int al), .val (.int cr), .val (.ref b0), .val .null, .val (.ref aW), .val (.ref li), .unset, .unset] [.null, (.ref li), (.ref pw), (.ref s2), (.ref us), (.ref us)]))
      refine Go.by (fun t9_ q9_ => XS.aload W230.here W230.hx rfl (hb hby at_144) rfl rfl q9_) ?_
      show Go p e below s Z [] _ _ _ (T228.setTop (mkF m 146 #[.val (.int p0), .val (.int p1), .val (.int p2), .val (.int p3), .val (.int en), .val (.int al), .val (.int cr), .val (.ref b0), .val .null, .val (.ref aW), .val (.ref li), .unset, .unset] [(.ref aW), .null, (.ref li), (.ref pw), (.ref s2), (.ref us), (.ref us)]))
      have X232 : Ext h222 h229 := (Ext.trans' X6 E231)
      refine W230.callI (y := (⟨"com/example/secondkey/secondkey/config/Config$User", "<init>", "(Ljava/lang/String;Ljava/lang/String;Ljava/util/List;Ljava/lang/String;Lcom/example/secondkey/secondkey/config/Config$SecondFactor;)V"⟩ : MethodName)) rfl (wd91 hw) (wd92 hw) (wd87 hw) (wd93 hw) (by decide) (a := us) (c_user l Z a0 hw hEL h229 W230.old us s2 pw li aW .null rfl (A_us.ext X232) (F_username_us.ext X232) (F_password_us.ext X232) (F_roles_us.ext X232) (F_totpSecret_us.ext X232) (F_secondFactor_us.ext X232) z_us) (allS (List.mem_of_getElem? (i := 0) rfl) all0) (by decide) (by decide) (k' := 10) (n' := 42) rfl rfl (by decide) (by decide) (by rw [hml]; rfl) (argsL := [(.ref s2), (.ref pw), (.ref li), .null, (.ref aW)]) (rest := [(.ref us)]) (lenOf pd_11 rfl) rfl rfl (Wt := 1) (Nat.le_of_eq rfl) (hb hby at_146) ?_
      intro v_ T233 h235 W234 hq_
      obtain ⟨rfl, K4, E4, F4, F5⟩ := hq_
      show Go p e below s Z [] _ _ _ (T233.setTop (mkF m 149 #[.val (.int p0), .val (.int p1), .val (.int p2), .val (.int p3), .val (.int en), .val (.int al), .val (.int cr), .val (.ref b0), .val .null, .val (.ref aW), .val (.ref li), .unset, .unset] [(.ref us)]))
      refine Go.by (fun t9_ q9_ => XS.astore W234.here W234.hx rfl (hb hby at_149) rfl rfl (l' := #[.val (.int p0), .val (.int p1), .val (.int p2), .val (.int p3), .val (.int en), .val (.int al), .val (.int cr), .val (.ref b0), .val .null, .val (.ref aW), .val (.ref li), .val (.ref us), .unset]) rfl q9_) ?_
      show Go p e below s Z [] _ _ _ (T233.setTop (mkF m 151 #[.val (.int p0), .val (.int p1), .val (.int p2), .val (.int p3), .val (.int en), .val (.int al), .val (.int cr), .val (.ref b0), .val .null, .val (.ref aW), .val (.ref li), .val (.ref us), .unset] []))
      refine Go.by (fun t9_ q9_ => XS.iload W234.here W234.hx rfl (hb hby at_151) rfl q9_) ?_
      show Go p e below s Z [] _ _ _ (T233.setTop (mkF m 153 #[.val (.int p0), .val (.int p1), .val (.int p2), .val (.int p3), .val (.int en), .val (.int al), .val (.int cr), .val (.ref b0), .val .null, .val (.ref aW), .val (.ref li), .val (.ref us), .unset] [(.int en)]))
      obtain ⟨ex, h_ex⟩ : ∃ z : Int32, z = (if en = (0 : Int32) then (0 : Int32) else (if al = (0 : Int32) then cr else (1 : Int32))) := ⟨_, rfl⟩
      have mg_ex : ∀ t, Steps p.tables e below (T233.setTop (mkF m 177 #[.val (.int p0), .val (.int p1), .val (.int p2), .val (.int p3), .val (.int en), .val (.int al), .val (.int cr), .val (.ref b0), .val .null, .val (.ref aW), .val (.ref li), .val (.ref us), .val (.int ex)] [])) t → Steps p.tables e below (T233.setTop (mkF m 153 #[.val (.int p0), .val (.int p1), .val (.int p2), .val (.int p3), .val (.int en), .val (.int al), .val (.int cr), .val (.ref b0), .val .null, .val (.ref aW), .val (.ref li), .val (.ref us), .unset] [(.int en)])) t := by
        intro t q
        by_cases hm236 : en = (0 : Int32)
        · refine XS.ifNo W234.here W234.hx rfl (hb hby at_153) rfl ((if0 _ _).trans (teq hm236).2) ?_
          show Steps p.tables e below (T233.setTop (mkF m 156 #[.val (.int p0), .val (.int p1), .val (.int p2), .val (.int p3), .val (.int en), .val (.int al), .val (.int cr), .val (.ref b0), .val .null, .val (.ref aW), .val (.ref li), .val (.ref us), .unset] [])) _
          refine XS.iconst W234.here W234.hx rfl (hb hby at_156) ?_
          show Steps p.tables e below (T233.setTop (mkF m 157 #[.val (.int p0), .val (.int p1), .val (.int p2), .val (.int p3), .val (.int en), .val (.int al), .val (.int cr), .val (.ref b0), .val .null, .val (.ref aW), .val (.ref li), .val (.ref us), .unset] [(.int (0 : Int32))])) _
          refine XS.istore W234.here W234.hx rfl (hb hby at_157) rfl (l' := #[.val (.int p0), .val (.int p1), .val (.int p2), .val (.int p3), .val (.int en), .val (.int al), .val (.int cr), .val (.ref b0), .val .null, .val (.ref aW), .val (.ref li), .val (.ref us), .val (.int (0 : Int32))]) rfl ?_
          show Steps p.tables e below (T233.setTop (mkF m 159 #[.val (.int p0), .val (.int p1), .val (.int p2), .val (.int p3), .val (.int en), .val (.int al), .val (.int cr), .val (.ref b0), .val .null, .val (.ref aW), .val (.ref li), .val (.ref us), .val (.int (0 : Int32))] [])) _
          refine XS.goto W234.here W234.hx rfl (pc0 := 159) (pc' := 177) rfl (hb hby at_159) (by decide) (by decide) ?_
          show Steps p.tables e below (T233.setTop (mkF m 177 #[.val (.int p0), .val (.int p1), .val (.int p2), .val (.int p3), .val (.int en), .val (.int al), .val (.int cr), .val (.ref b0), .val .null, .val (.ref aW), .val (.ref li), .val (.ref us), .val (.int (0 : Int32))] [])) _
          rw [if_pos hm236] at h_ex
          subst h_ex
          exact q
        · refine XS.ifYes W234.here W234.hx rfl (pc0 := 153) (pc' := 162) rfl (hb hby at_153) rfl ((if0 _ _).trans (feq hm236).2) (by decide) (by decide) ?_
          show Steps p.tables e below (T233.setTop (mkF m 162 #[.val (.int p0), .val (.int p1), .val (.int p2), .val (.int p3), .val (.int en), .val (.int al), .val (.int cr), .val (.ref b0), .val .null, .val (.ref aW), .val (.ref li), .val (.ref us), .unset] [])) _
          refine XS.iload W234.here W234.hx rfl (hb hby at_162) rfl ?_
          show Steps p.tables e below (T233.setTop (mkF m 164 #[.val (.int p0), .val (.int p1), .val (.int p2), .val (.int p3), .val (.int en), .val (.int al), .val (.int cr), .val (.ref b0), .val .null, .val (.ref aW), .val (.ref li), .val (.ref us), .unset] [(.int al)])) _
          by_cases hm237 : al = (0 : Int32)
          · refine XS.ifYes W234.here W234.hx rfl (pc0 := 164) (pc' := 173) rfl (hb hby at_164) rfl ((if0 _ _).trans (teq hm237).1) (by decide) (by decide) ?_
            show Steps p.tables e below (T233.setTop (mkF m 173 #[.val (.int p0), .val (.int p1), .val (.int p2), .val (.int p3), .val (.int en), .val (.int al), .val (.int cr), .val (.ref b0), .val .null, .val (.ref aW), .val (.ref li), .val (.ref us), .unset] [])) _
            refine XS.iload W234.here W234.hx rfl (hb hby at_173) rfl ?_
            show Steps p.tables e below (T233.setTop (mkF m 175 #[.val (.int p0), .val (.int p1), .val (.int p2), .val (.int p3), .val (.int en), .val (.int al), .val (.int cr), .val (.ref b0), .val .null, .val (.ref aW), .val (.ref li), .val (.ref us), .unset] [(.int cr)])) _
            refine XS.istore W234.here W234.hx rfl (hb hby at_175) rfl (l' := #[.val (.int p0), .val (.int p1), .val (.int p2), .val (.int p3), .val (.int en), .val (.int al), .val (.int cr), .val (.ref b0), .val .null, .val (.ref aW), .val (.ref li), .val (.ref us), .val (.int cr)]) rfl ?_
            show Steps p.tables e below (T233.setTop (mkF m 177 #[.val (.int p0), .val (.int p1), .val (.int p2), .val (.int p3), .val (.int en), .val (.int al), .val (.int cr), .val (.ref b0), .val .null, .val (.ref aW), .val (.ref li), .val (.ref us), .val (.int cr)] [])) _
            rw [if_neg hm236, if_pos hm237] at h_ex
            subst h_ex
            exact q
          · refine XS.ifNo W234.here W234.hx rfl (hb hby at_164) rfl ((if0 _ _).trans (feq hm237).1) ?_
            show Steps p.tables e below (T233.setTop (mkF m 167 #[.val (.int p0), .val (.int p1), .val (.int p2), .val (.int p3), .val (.int en), .val (.int al), .val (.int cr), .val (.ref b0), .val .null, .val (.ref aW), .val (.ref li), .val (.ref us), .unset] [])) _
            refine XS.iconst W234.here W234.hx rfl (hb hby at_167) ?_
            show Steps p.tables e below (T233.setTop (mkF m 168 #[.val (.int p0), .val (.int p1), .val (.int p2), .val (.int p3), .val (.int en), .val (.int al), .val (.int cr), .val (.ref b0), .val .null, .val (.ref aW), .val (.ref li), .val (.ref us), .unset] [(.int (1 : Int32))])) _
            refine XS.istore W234.here W234.hx rfl (hb hby at_168) rfl (l' := #[.val (.int p0), .val (.int p1), .val (.int p2), .val (.int p3), .val (.int en), .val (.int al), .val (.int cr), .val (.ref b0), .val .null, .val (.ref aW), .val (.ref li), .val (.ref us), .val (.int (1 : Int32))]) rfl ?_
            show Steps p.tables e below (T233.setTop (mkF m 170 #[.val (.int p0), .val (.int p1), .val (.int p2), .val (.int p3), .val (.int en), .val (.int al), .val (.int cr), .val (.ref b0), .val .null, .val (.ref aW), .val (.ref li), .val (.ref us), .val (.int (1 : Int32))] [])) _
            refine XS.goto W234.here W234.hx rfl (pc0 := 170) (pc' := 177) rfl (hb hby at_170) (by decide) (by decide) ?_
            show Steps p.tables e below (T233.setTop (mkF m 177 #[.val (.int p0), .val (.int p1), .val (.int p2), .val (.int p3), .val (.int en), .val (.int al), .val (.int cr), .val (.ref b0), .val .null, .val (.ref aW), .val (.ref li), .val (.ref us), .val (.int (1 : Int32))] [])) _
            rw [if_neg hm236, if_neg hm237] at h_ex
            subst h_ex
            exact q
      refine Go.by mg_ex ?_
      show Go p e below s Z [] _ _ _ (T233.setTop (mkF m 177 #[.val (.int p0), .val (.int p1), .val (.int p2), .val (.int p3), .val (.int en), .val (.int al), .val (.int cr), .val (.ref b0), .val .null, .val (.ref aW), .val (.ref li), .val (.ref us), .val (.int ex)] []))
      refine Go.by (fun t9_ q9_ => XS.aload W234.here W234.hx rfl (hb hby at_177) rfl rfl q9_) ?_
      show Go p e below s Z [] _ _ _ (T233.setTop (mkF m 179 #[.val (.int p0), .val (.int p1), .val (.int p2), .val (.int p3), .val (.int en), .val (.int al), .val (.int cr), .val (.ref b0), .val .null, .val (.ref aW), .val (.ref li), .val (.ref us), .val (.int ex)] [(.ref us)]))
      refine Go.by (fun t9_ q9_ => XS.iload W234.here W234.hx rfl (hb hby at_179) rfl q9_) ?_
      show Go p e below s Z [] _ _ _ (T233.setTop (mkF m 181 #[.val (.int p0), .val (.int p1), .val (.int p2), .val (.int p3), .val (.int en), .val (.int al), .val (.int cr), .val (.ref b0), .val .null, .val (.ref aW), .val (.ref li), .val (.ref us), .val (.int ex)] [(.int cr), (.ref us)]))
      refine W234.callVp (y := (⟨"com/example/secondkey/secondkey/config/Config$User", "owesSecondFactor", "(Z)Z"⟩ : MethodName)) (z := (⟨"com/example/secondkey/secondkey/config/Config$User", "owesSecondFactor", "(Z)Z"⟩ : MethodName)) (wd110 hw) (wd111 hw) (nf_sel rfl (wd113 hw)) (wd113 hw) (wd112 hw) (wd87 hw) (wd114 hw) (by decide) E4 (a := us) (c_owes l Z a0 hw hEL h235 W234.old us aW aA .null rfl cr E4 F4 F5 SA) all0 (by decide) (by decide) (k' := 10) (n' := 42) rfl rfl (by decide) (by decide) (by rw [hml]; rfl) (argsL := [(.int cr)]) (rest := []) (lenOf pd_12 rfl) rfl rfl (Wt := 0) (Nat.le_of_eq rfl) (hb hby at_181) ?_
      intro T238 W239
      show Go p e below s Z [] _ _ _ (T238.setTop (mkF m 184 #[.val (.int p0), .val (.int p1), .val (.int p2), .val (.int p3), .val (.int en), .val (.int al), .val (.int cr), .val (.ref b0), .val .null, .val (.ref aW), .val (.ref li), .val (.ref us), .val (.int ex)] [(.int (if Value.null = .null then (0 : Int32) else if aW = aA then 1 else if cr = 0 then 0 else 1))]))
      refine Go.by (fun t9_ q9_ => XS.iload W239.here W239.hx rfl (hb hby at_184) rfl q9_) ?_
      show Go p e below s Z [] _ _ _ (T238.setTop (mkF m 186 #[.val (.int p0), .val (.int p1), .val (.int p2), .val (.int p3), .val (.int en), .val (.int al), .val (.int cr), .val (.ref b0), .val .null, .val (.ref aW), .val (.ref li), .val (.ref us), .val (.int ex)] [(.int ex), (.int (if Value.null = .null then (0 : Int32) else if aW = aA then 1 else if cr = 0 then 0 else 1))]))
      have he : (if Value.null = .null then (0 : Int32) else if aW = aA then 1 else if cr = 0 then 0 else 1) = ex := by rcases hcr01 with rfl | rfl <;> simp_all
      refine Go.by (fun t9_ q9_ => XS.icmpNo W239.here W239.hx rfl (hb hby at_186) rfl (teq he).2 q9_) ?_
      show Go p e below s Z [] _ _ _ (T238.setTop (mkF m 189 #[.val (.int p0), .val (.int p1), .val (.int p2), .val (.int p3), .val (.int en), .val (.int al), .val (.int cr), .val (.ref b0), .val .null, .val (.ref aW), .val (.ref li), .val (.ref us), .val (.int ex)] []))
      refine Go.by (fun t9_ q9_ => XS.iconst W239.here W239.hx rfl (hb hby at_189) q9_) ?_
      show Go p e below s Z [] _ _ _ (T238.setTop (mkF m 190 #[.val (.int p0), .val (.int p1), .val (.int p2), .val (.int p3), .val (.int en), .val (.int al), .val (.int cr), .val (.ref b0), .val .null, .val (.ref aW), .val (.ref li), .val (.ref us), .val (.int ex)] [(.int (1 : Int32))]))
      refine Go.by (fun t9_ q9_ => XS.goto W239.here W239.hx rfl (pc0 := 190) (pc' := 194) rfl (hb hby at_190) (by decide) (by decide) q9_) ?_
      show Go p e below s Z [] _ _ _ (T238.setTop (mkF m 194 #[.val (.int p0), .val (.int p1), .val (.int p2), .val (.int p3), .val (.int en), .val (.int al), .val (.int cr), .val (.ref b0), .val .null, .val (.ref aW), .val (.ref li), .val (.ref us), .val (.int ex)] [(.int (1 : Int32))]))
      exact W239.retN (z' := (1 : Int32)) (by decide) (by decide) hret (by simp) (hb hby at_194) rfl rfl
    · refine Go.by (fun t9_ q9_ => XS.ifNo W203.here W203.hx rfl (hb hby at_84) rfl ((if0 _ _).trans (feq hal).1) q9_) ?_
      show Go p e below s Z [] _ _ _ (T201.setTop (mkF m 87 #[.val (.int p0), .val (.int p1), .val (.int p2), .val (.int p3), .val (.int en), .val (.int al), .val (.int cr), .val (.ref b0), .val .null, .unset, .unset, .unset, .unset] []))
      refine W203.gets (host := "") (Or.inl (wd137 hw)) Via.refl (SA.ext W203.old) (hb hby at_87) ?_
      intro T240 W241
      show Go p e below s Z [] _ _ _ (T240.setTop (mkF m 90 #[.val (.int p0), .val (.int p1), .val (.int p2), .val (.int p3), .val (.int en), .val (.int al), .val (.int cr), .val (.ref b0), .val .null, .unset, .unset, .unset, .unset] [(.ref aA)]))
      refine Go.by (fun t9_ q9_ => XS.goto W241.here W241.hx rfl (pc0 := 90) (pc' := 96) rfl (hb hby at_90) (by decide) (by decide) q9_) ?_
      show Go p e below s Z [] _ _ _ (T240.setTop (mkF m 96 #[.val (.int p0), .val (.int p1), .val (.int p2), .val (.int p3), .val (.int en), .val (.int al), .val (.int cr), .val (.ref b0), .val .null, .unset, .unset, .unset, .unset] [(.ref aA)]))
      refine Go.by (fun t9_ q9_ => XS.astore W241.here W241.hx rfl (hb hby at_96) rfl rfl (l' := #[.val (.int p0), .val (.int p1), .val (.int p2), .val (.int p3), .val (.int en), .val (.int al), .val (.int cr), .val (.ref b0), .val .null, .val (.ref aA), .unset, .unset, .unset]) rfl q9_) ?_
      show Go p e below s Z [] _ _ _ (T240.setTop (mkF m 98 #[.val (.int p0), .val (.int p1), .val (.int p2), .val (.int p3), .val (.int en), .val (.int al), .val (.int cr), .val (.ref b0), .val .null, .val (.ref aA), .unset, .unset, .unset] []))
      refine W241.new (wd4 hw) (wd5 hw) (wd6 hw) (hb hby at_98) (k' := 2) (n' := 5) rfl rfl (by decide) (by decide) ?_
      intro T242 h243 li W244 E245 g_li z_li A_li D_li
      have F_modCount_li : Fld Z h243 li "java/util/AbstractList" "modCount" "I" (.int (0 : Int32)) := D_li (Or.inl (wd26 hw)) (ty := .int) (by decide)
      have F_elementData_li : Fld Z h243 li "java/util/ArrayList" "elementData" "[Ljava/lang/Object;" .null := D_li (Or.inl (wd29 hw)) (ty := (.array (.object "java/lang/Object"))) (by decide)
      have F_size_li : Fld Z h243 li "java/util/ArrayList" "size" "I" (.int (0 : Int32)) := D_li (Or.inl (wd62 hw)) (ty := .int) (by decide)
      show Go p e below s Z [] _ _ _ (T242.setTop (mkF m 101 #[.val (.int p0), .val (.int p1), .val (.int p2), .val (.int p3), .val (.int en), .val (.int al), .val (.int cr), .val (.ref b0), .val .null, .val (.ref aA), .unset, .unset, .unset] [(.ref li)]))
      refine Go.by (fun t9_ q9_ => XS.dup W244.here W244.hx rfl (hb hby at_101) rfl rfl q9_) ?_
      show Go p e below s Z [] _ _ _ (T242.setTop (mkF m 102 #[.val (.int p0), .val (.int p1), .val (.int p2), .val (.int p3), .val (.int en), .val (.int al), .val (.int cr), .val (.ref b0), .val .null, .val (.ref aA), .unset, .unset, .unset] [(.ref li), (.ref li)]))
      refine W244.callI (y := (⟨"java/util/ArrayList", "<init>", "()V"⟩ : MethodName)) rfl (wd7 hw) (wd8 hw) (wd6 hw) (wd9 hw) (by decide) (a := li) (c_alinit l Z a0 hw hEL h243 W244.old li dd A_li F_modCount_li F_elementData_li z_li F_size_li SD) (allS (List.mem_of_getElem? (i := 0) rfl) all0) (by decide) (by decide) (k' := 2) (n' := 5) rfl rfl (by decide) (by decide) (by rw [hml]; rfl) (argsL := []) (rest := [(.ref li)]) (lenOf pd_3 rfl) rfl rfl (Wt := 1) (Nat.le_of_eq rfl) (hb hby at_102) ?_
      intro v_ T246 h248 W247 hq_
      obtain ⟨rfl, K3, g1, g2, g3, g4⟩ := hq_
      show Go p e below s Z [] _ _ _ (T246.setTop (mkF m 105 #[.val (.int p0), .val (.int p1), .val (.int p2), .val (.int p3), .val (.int en), .val (.int al), .val (.int cr), .val (.ref b0), .val .null, .val (.ref aA), .unset, .unset, .unset] [(.ref li)]))
      refine Go.by (fun t9_ q9_ => XS.astore W247.here W247.hx rfl (hb hby at_105) rfl rfl (l' := #[.val (.int p0), .val (.int p1), .val (.int p2), .val (.int p3), .val (.int en), .val (.int al), .val (.int cr), .val (.ref b0), .val .null, .val (.ref aA), .val (.ref li), .unset, .unset]) rfl q9_) ?_
      show Go p e below s Z [] _ _ _ (T246.setTop (mkF m 107 #[.val (.int p0), .val (.int p1), .val (.int p2), .val (.int p3), .val (.int en), .val (.int al), .val (.int cr), .val (.ref b0), .val .null, .val (.ref aA), .val (.ref li), .unset, .unset] []))
      refine Go.by (fun t9_ q9_ => XS.aload W247.here W247.hx rfl (hb hby at_107) rfl rfl q9_) ?_
      show Go p e below s Z [] _ _ _ (T246.setTop (mkF m 109 #[.val (.int p0), .val (.int p1), .val (.int p2), .val (.int p3), .val (.int en), .val (.int al), .val (.int cr), .val (.ref b0), .val .null, .val (.ref aA), .val (.ref li), .unset, .unset] [(.ref li)]))
      refine Go.by (fun t9_ q9_ => XS.iloadN W247.here W247.hx rfl (hb hby at_109) rfl q9_) ?_
      show Go p e below s Z [] _ _ _ (T246.setTop (mkF m 110 #[.val (.int p0), .val (.int p1), .val (.int p2), .val (.int p3), .val (.int en), .val (.int al), .val (.int cr), .val (.ref b0), .val .null, .val (.ref aA), .val (.ref li), .unset, .unset] [(.int p3), (.ref li)]))
      refine Go.by (fun t9_ q9_ => XS.sipush W247.here W247.hx rfl (hb hby at_110) q9_) ?_
      show Go p e below s Z [] _ _ _ (T246.setTop (mkF m 113 #[.val (.int p0), .val (.int p1), .val (.int p2), .val (.int p3), .val (.int en), .val (.int al), .val (.int cr), .val (.ref b0), .val .null, .val (.ref aA), .val (.ref li), .unset, .unset] [(.int (255 : Int32)), (.int p3), (.ref li)]))
      refine Go.by (fun t9_ q9_ => XS.iand W247.here W247.hx rfl (hb hby at_113) rfl q9_) ?_
      show Go p e below s Z [] _ _ _ (T246.setTop (mkF m 114 #[.val (.int p0), .val (.int p1), .val (.int p2), .val (.int p3), .val (.int en), .val (.int al), .val (.int cr), .val (.ref b0), .val .null, .val (.ref aA), .val (.ref li), .unset, .unset] [(.int (p3 &&& (255 : Int32))), (.ref li)]))
      refine Go.by (fun t9_ q9_ => XS.i2c W247.here W247.hx rfl (hb hby at_114) rfl q9_) ?_
      show Go p e below s Z [] _ _ _ (T246.setTop (mkF m 115 #[.val (.int p0), .val (.int p1), .val (.int p2), .val (.int p3), .val (.int en), .val (.int al), .val (.int cr), .val (.ref b0), .val .null, .val (.ref aA), .val (.ref li), .unset, .unset] [(.int ((p3 &&& (255 : Int32)).toUInt32.toUInt16.toUInt32.toInt32)), (.ref li)]))
      refine W247.callS (y := (⟨"java/lang/String", "valueOf", "(C)Ljava/lang/String;"⟩ : MethodName)) (wd30 hw) (wd31 hw) (wd32 hw) (wd33 hw) (by decide) (c_valueof l Z a0 hw hEL h248 W247.old G1 _ SG1 hG (k_mask _).1 (k_mask _).2) all0 (by decide) (by decide) (k' := 4) (n' := 10) rfl rfl (by decide) (by decide) (by rw [hml]; rfl) (argsL := [(.int ((p3 &&& (255 : Int32)).toUInt32.toUInt16.toUInt32.toInt32))]) (rest := [(.ref li)]) (lenOf pd_9 rfl) rfl rfl (Wt := 1) (Nat.le_of_eq rfl) (hb hby at_115) ?_
      intro v_ T249 h251 W250 hq_
      obtain ⟨s1, rfl, X2, S_s1⟩ := hq_
      show Go p e below s Z [] _ _ _ (T249.setTop (mkF m 118 #[.val (.int p0), .val (.int p1), .val (.int p2), .val (.int p3), .val (.int en), .val (.int al), .val (.int cr), .val (.ref b0), .val .null, .val (.ref aA), .val (.ref li), .unset, .unset] [(.ref s1), (.ref li)]))
      refine W250.callV (y := (⟨"java/util/ArrayList", "add", "(Ljava/lang/Object;)Z"⟩ : MethodName)) (z := (⟨"java/util/ArrayList", "add", "(Ljava/lang/Object;)Z"⟩ : MethodName)) (wd54 hw) (wd55 hw) (nf_sel rfl (wd57 hw)) (wd57 hw) (wd56 hw) (wd6 hw) (wd58 hw) (by decide) (g1.ext X2) (a := li) (c_add1 l Z a0 hw hEL h251 W250.old li dd kd 0 s1 (g1.ext X2) (g2.ext X2) (g3.ext X2) (g4.ext X2) z_li SD DA S_s1.exa) (allS (List.mem_of_getElem? (i := 0) rfl) all0) (by decide) (by decide) (k' := 5) (n' := 20) rfl rfl (by decide) (by decide) (by rw [hml]; rfl) (argsL := [(.ref s1)]) (rest := []) (lenOf pd_10 rfl) rfl rfl (Wt := 0) (Nat.le_of_eq rfl) (hb hby at_118) ?_
      intro v_ T252 h254 W253 hq_
      obtain ⟨rfl, K5⟩ := hq_
      show Go p e below s Z [] _ _ _ (T252.setTop (mkF m 121 #[.val (.int p0), .val (.int p1), .val (.int p2), .val (.int p3), .val (.int en), .val (.int al), .val (.int cr), .val (.ref b0), .val .null, .val (.ref aA), .val (.ref li), .unset, .unset] [(.int (1 : Int32))]))
      refine Go.by (fun t9_ q9_ => XS.pop W253.here W253.hx rfl (hb hby at_121) rfl rfl q9_) ?_
      show Go p e below s Z [] _ _ _ (T252.setTop (mkF m 122 #[.val (.int p0), .val (.int p1), .val (.int p2), .val (.int p3), .val (.int en), .val (.int al), .val (.int cr), .val (.ref b0), .val .null, .val (.ref aA), .val (.ref li), .unset, .unset] []))
      refine W253.new (wd85 hw) (wd86 hw) (wd87 hw) (hb hby at_122) (k' := 6) (n' := 25) rfl rfl (by decide) (by decide) ?_
      intro T255 h256 us W257 E258 g_us z_us A_us D_us
      have F_username_us : Fld Z h256 us "com/example/secondkey/secondkey/config/Config$User" "username" "Ljava/lang/String;" .null := D_us (Or.inr (wd101 hw)) (ty := (.object "java/lang/String")) (by decide)
      have F_password_us : Fld Z h256 us "com/example/secondkey/secondkey/config/Config$User" "password" "Ljava/lang/String;" .null := D_us (Or.inr (wd103 hw)) (ty := (.object "java/lang/String")) (by decide)
      have F_roles_us : Fld Z h256 us "com/example/secondkey/secondkey/config/Config$User" "roles" "Ljava/util/List;" .null := D_us (Or.inr (wd105 hw)) (ty := (.object "java/util/List")) (by decide)
      have F_totpSecret_us : Fld Z h256 us "com/example/secondkey/secondkey/config/Config$User" "totpSecret" "Ljava/lang/String;" .null := D_us (Or.inr (wd107 hw)) (ty := (.object "java/lang/String")) (by decide)
      have F_secondFactor_us : Fld Z h256 us "com/example/secondkey/secondkey/config/Config$User" "secondFactor" "Lcom/example/secondkey/secondkey/config/Config$SecondFactor;" .null := D_us (Or.inr (wd109 hw)) (ty := (.object "com/example/secondkey/secondkey/config/Config$SecondFactor")) (by decide)
      show Go p e below s Z [] _ _ _ (T255.setTop (mkF m 125 #[.val (.int p0), .val (.int p1), .val (.int p2), .val (.int p3), .val (.int en), .val (.int al), .val (.int cr), .val (.ref b0), .val .null, .val (.ref aA), .val (.ref li), .unset, .unset] [(.ref us)]))
      refine Go.by (fun t9_ q9_ => XS.dup W257.here W257.hx rfl (hb hby at_125) rfl rfl q9_) ?_
      show Go p e below s Z [] _ _ _ (T255.setTop (mkF m 126 #[.val (.int p0), .val (.int p1), .val (.int p2), .val (.int p3), .val (.int en), .val (.int al), .val (.int cr), .val (.ref b0), .val .null, .val (.ref aA), .val (.ref li), .unset, .unset] [(.ref us), (.ref us)]))
      refine Go.by (fun t9_ q9_ => XS.iloadN W257.here W257.hx rfl (hb hby at_126) rfl q9_) ?_
      show Go p e below s Z [] _ _ _ (T255.setTop (mkF m 127 #[.val (.int p0), .val (.int p1), .val (.int p2), .val (.int p3), .val (.int en), .val (.int al), .val (.int cr), .val (.ref b0), .val .null, .val (.ref aA), .val (.ref li), .unset, .unset] [(.int p3), (.ref us), (.ref us)]))
      refine Go.by (fun t9_ q9_ => XS.bipush W257.here W257.hx rfl (hb hby at_127) q9_) ?_
      show Go p e below s Z [] _ _ _ (T255.setTop (mkF m 129 #[.val (.int p0), .val (.int p1), .val (.int p2), .val (.int p3), .val (.int en), .val (.int al), .val (.int cr), .val (.ref b0), .val .null, .val (.ref aA), .val (.ref li), .unset, .unset] [(.int (8 : Int32)), (.int p3), (.ref us), (.ref us)]))
      refine Go.by (fun t9_ q9_ => XS.iushr W257.here W257.hx rfl (hb hby at_129) rfl q9_) ?_
      show Go p e below s Z [] _ _ _ (T255.setTop (mkF m 130 #[.val (.int p0), .val (.int p1), .val (.int p2), .val (.int p3), .val (.int en), .val (.int al), .val (.int cr), .val (.ref b0), .val .null, .val (.ref aA), .val (.ref li), .unset, .unset] [(.int ((p3.toUInt32 >>> ((8 : Int32) &&& 31).toUInt32).toInt32)), (.ref us), (.ref us)]))
      refine Go.by (fun t9_ q9_ => XS.sipush W257.here W257.hx rfl (hb hby at_130) q9_) ?_
      show Go p e below s Z [] _ _ _ (T255.setTop (mkF m 133 #[.val (.int p0), .val (.int p1), .val (.int p2), .val (.int p3), .val (.int en), .val (.int al), .val (.int cr), .val (.ref b0), .val .null, .val (.ref aA), .val (.ref li), .unset, .unset] [(.int (255 : Int32)), (.int ((p3.toUInt32 >>> ((8 : Int32) &&& 31).toUInt32).toInt32)), (.ref us), (.ref us)]))
      refine Go.by (fun t9_ q9_ => XS.iand W257.here W257.hx rfl (hb hby at_133) rfl q9_) ?_
      show Go p e below s Z [] _ _ _ (T255.setTop (mkF m 134 #[.val (.int p0), .val (.int p1), .val (.int p2), .val (.int p3), .val (.int en), .val (.int al), .val (.int cr), .val (.ref b0), .val .null, .val (.ref aA), .val (.ref li), .unset, .unset] [(.int (((p3.toUInt32 >>> ((8 : Int32) &&& 31).toUInt32).toInt32) &&& (255 : Int32))), (.ref us), (.ref us)]))
      refine Go.by (fun t9_ q9_ => XS.i2c W257.here W257.hx rfl (hb hby at_134) rfl q9_) ?_
      show Go p e below s Z [] _ _ _ (T255.setTop (mkF m 135 #[.val (.int p0), .val (.int p1), .val (.int p2), .val (.int p3), .val (.int en), .val (.int al), .val (.int cr), .val (.ref b0), .val .null, .val (.ref aA), .val (.ref li), .unset, .unset] [(.int ((((p3.toUInt32 >>> ((8 : Int32) &&& 31).toUInt32).toInt32) &&& (255 : Int32)).toUInt32.toUInt16.toUInt32.toInt32)), (.ref us), (.ref us)]))
      refine W257.callS (y := (⟨"java/lang/String", "valueOf", "(C)Ljava/lang/String;"⟩ : MethodName)) (wd30 hw) (wd31 hw) (wd32 hw) (wd33 hw) (by decide) (c_valueof l Z a0 hw hEL h256 W257.old G1 _ SG1 hG (k_mask _).1 (k_mask _).2) all0 (by decide) (by decide) (k' := 8) (n' := 30) rfl rfl (by decide) (by decide) (by rw [hml]; rfl) (argsL := [(.int ((((p3.toUInt32 >>> ((8 : Int32) &&& 31).toUInt32).toInt32) &&& (255 : Int32)).toUInt32.toUInt16.toUInt32.toInt32))]) (rest := [(.ref us), (.ref us)]) (lenOf pd_9 rfl) rfl rfl (Wt := 2) (Nat.le_of_eq rfl) (hb hby at_135) ?_
      intro v_ T259 h261 W260 hq_
      obtain ⟨s2, rfl, X6, S_s2⟩ := hq_
      show Go p e below s Z [] _ _ _ (T259.setTop (mkF m 138 #[.val (.int p0), .val (.int p1), .val (.int p2), .val (.int p3), .val (.int en), .val (.int al), .val (.int cr), .val (.ref b0), .val .null, .val (.ref aA), .val (.ref li), .unset, .unset] [(.ref s2), (.ref us), (.ref us)]))
      refine W260.ldcO (wd88 hw) (k_sa hw) (hb hby at_138) (q := 8) (by decide +kernel) (by decide) (k' := 10) (n' := 42) rfl rfl (by decide) (by decide) ?_
      intro T262 h263 pw W264 E265
      show Go p e below s Z [] _ _ _ (T262.setTop (mkF m 140 #[.val (.int p0), .val (.int p1), .val (.int p2), .val (.int p3), .val (.int en), .val (.int al), .val (.int cr), .val (.ref b0), .val .null, .val (.ref aA), .val (.ref li), .unset, .unset] [(.ref pw), (.ref s2), (.ref us), (.ref us)]))
      refine Go.by (fun t9_ q9_ => XS.aload W264.here W264.hx rfl (hb hby at_140) rfl rfl q9_) ?_
      show Go p e below s Z [] _ _ _ (T262.setTop (mkF m 142 #[.val (.int p0), .val (.int p1), .val (.int p2), .val (.int p3), .val (.int en), .val (.int al), .val (.int cr), .val (.ref b0), .val .null, .val (.ref aA), .val (.ref li), .unset, .unset] [(.ref li), (.ref pw), (.ref s2), (.ref us), (.ref us)]))
      refine Go.by (fun t9_ q9_ => XS.aload W264.here W264.hx rfl (hb hby at_142) rfl rfl q9_) ?_
      show Go p e below s Z [] _ _ _ (T262.setTop (mkF m 144 #[.val (.int p0), .val (.int p1), .val (.int p2), .val (.int p3), .val (.int en), .val (.int al), .val (.int cr), .val (.ref b0), .val .null, .val (.ref aA), .val (.ref li), .unset, .unset] [.null, (.ref li), (.ref pw), (.ref s2), (.ref us), (.ref us)]))
      refine Go.by (fun t9_ q9_ => XS.aload W264.here W264.hx rfl (hb hby at_144) rfl rfl q9_) ?_
      show Go p e below s Z [] _ _ _ (T262.setTop (mkF m 146 #[.val (.int p0), .val (.int p1), .val (.int p2), .val (.int p3), .val (.int en), .val (.int al), .val (.int cr), .val (.ref b0), .val .null, .val (.ref aA), .val (.ref li), .unset, .unset] [(.ref aA), .null, (.ref li), (.ref pw), (.ref s2), (.ref us), (.ref us)]))
      have X266 : Ext h256 h263 := (Ext.trans' X6 E265)
      refine W264.callI (y := (⟨"com/example/secondkey/secondkey/config/Config$User", "<init>", "(Ljava/lang/String;Ljava/lang/String;Ljava/util/List;Ljava/lang/String;Lcom/example/secondkey/secondkey/config/Config$SecondFactor;)V"⟩ : MethodName)) rfl (wd91 hw) (wd92 hw) (wd87 hw) (wd93 hw) (by decide) (a := us) (c_user l Z a0 hw hEL h263 W264.old us s2 pw li aA .null rfl (A_us.ext X266) (F_username_us.ext X266) (F_password_us.ext X266) (F_roles_us.ext X266) (F_totpSecret_us.ext X266) (F_secondFactor_us.ext X266) z_us) (allS (List.mem_of_getElem? (i := 0) rfl) all0) (by decide) (by decide) (k' := 10) (n' := 42) rfl rfl (by decide) (by decide) (by rw [hml]; rfl) (argsL := [(.ref s2), (.ref pw), (.ref li), .null, (.ref aA)]) (rest := [(.ref us)]) (lenOf pd_11 rfl) rfl rfl (Wt := 1) (Nat.le_of_eq rfl) (hb hby at_146) ?_
      intro v_ T267 h269 W268 hq_
      obtain ⟨rfl, K4, E4, F4, F5⟩ := hq_
      show Go p e below s Z [] _ _ _ (T267.setTop (mkF m 149 #[.val (.int p0), .val (.int p1), .val (.int p2), .val (.int p3), .val (.int en), .val (.int al), .val (.int cr), .val (.ref b0), .val .null, .val (.ref aA), .val (.ref li), .unset, .unset] [(.ref us)]))
      refine Go.by (fun t9_ q9_ => XS.astore W268.here W268.hx rfl (hb hby at_149) rfl rfl (l' := #[.val (.int p0), .val (.int p1), .val (.int p2), .val (.int p3), .val (.int en), .val (.int al), .val (.int cr), .val (.ref b0), .val .null, .val (.ref aA), .val (.ref li), .val (.ref us), .unset]) rfl q9_) ?_
      show Go p e below s Z [] _ _ _ (T267.setTop (mkF m 151 #[.val (.int p0), .val (.int p1), .val (.int p2), .val (.int p3), .val (.int en), .val (.int al), .val (.int cr), .val (.ref b0), .val .null, .val (.ref aA), .val (.ref li), .val (.ref us), .unset] []))
      refine Go.by (fun t9_ q9_ => XS.iload W268.here W268.hx rfl (hb hby at_151) rfl q9_) ?_
      show Go p e below s Z [] _ _ _ (T267.setTop (mkF m 153 #[.val (.int p0), .val (.int p1), .val (.int p2), .val (.int p3), .val (.int en), .val (.int al), .val (.int cr), .val (.ref b0), .val .null, .val (.ref aA), .val (.ref li), .val (.ref us), .unset] [(.int en)]))
      obtain ⟨ex, h_ex⟩ : ∃ z : Int32, z = (if en = (0 : Int32) then (0 : Int32) else (if al = (0 : Int32) then cr else (1 : Int32))) := ⟨_, rfl⟩
      have mg_ex : ∀ t, Steps p.tables e below (T267.setTop (mkF m 177 #[.val (.int p0), .val (.int p1), .val (.int p2), .val (.int p3), .val (.int en), .val (.int al), .val (.int cr), .val (.ref b0), .val .null, .val (.ref aA), .val (.ref li), .val (.ref us), .val (.int ex)] [])) t → Steps p.tables e below (T267.setTop (mkF m 153 #[.val (.int p0), .val (.int p1), .val (.int p2), .val (.int p3), .val (.int en), .val (.int al), .val (.int cr), .val (.ref b0), .val .null, .val (.ref aA), .val (.ref li), .val (.ref us), .unset] [(.int en)])) t := by
        intro t q
        by_cases hm270 : en = (0 : Int32)
        · refine XS.ifNo W268.here W268.hx rfl (hb hby at_153) rfl ((if0 _ _).trans (teq hm270).2) ?_
          show Steps p.tables e below (T267.setTop (mkF m 156 #[.val (.int p0), .val (.int p1), .val (.int p2), .val (.int p3), .val (.int en), .val (.int al), .val (.int cr), .val (.ref b0), .val .null, .val (.ref aA), .val (.ref li), .val (.ref us), .unset] [])) _
          refine XS.iconst W268.here W268.hx rfl (hb hby at_156) ?_
          show Steps p.tables e below (T267.setTop (mkF m 157 #[.val (.int p0), .val (.int p1), .val (.int p2), .val (.int p3), .val (.int en), .val (.int al), .val (.int cr), .val (.ref b0), .val .null, .val (.ref aA), .val (.ref li), .val (.ref us), .unset] [(.int (0 : Int32))])) _
          refine XS.istore W268.here W268.hx rfl (hb hby at_157) rfl (l' := #[.val (.int p0), .val (.int p1), .val (.int p2), .val (.int p3), .val (.int en), .val (.int al), .val (.int cr), .val (.ref b0), .val .null, .val (.ref aA), .val (.ref li), .val (.ref us), .val (.int (0 : Int32))]) rfl ?_
          show Steps p.tables e below (T267.setTop (mkF m 159 #[.val (.int p0), .val (.int p1), .val (.int p2), .val (.int p3), .val (.int en), .val (.int al), .val (.int cr), .val (.ref b0), .val .null, .val (.ref aA), .val (.ref li), .val (.ref us), .val (.int (0 : Int32))] [])) _
          refine XS.goto W268.here W268.hx rfl (pc0 := 159) (pc' := 177) rfl (hb hby at_159) (by decide) (by decide) ?_
          show Steps p.tables e below (T267.setTop (mkF m 177 #[.val (.int p0), .val (.int p1), .val (.int p2), .val (.int p3), .val (.int en), .val (.int al), .val (.int cr), .val (.ref b0), .val .null, .val (.ref aA), .val (.ref li), .val (.ref us), .val (.int (0 : Int32))] [])) _
          rw [if_pos hm270] at h_ex
          subst h_ex
          exact q
        · refine XS.ifYes W268.here W268.hx rfl (pc0 := 153) (pc' := 162) rfl (hb hby at_153) rfl ((if0 _ _).trans (feq hm270).2) (by decide) (by decide) ?_
          show Steps p.tables e below (T267.setTop (mkF m 162 #[.val (.int p0), .val (.int p1), .val (.int p2), .val (.int p3), .val (.int en), .val (.int al), .val (.int cr), .val (.ref b0), .val .null, .val (.ref aA), .val (.ref li), .val (.ref us), .unset] [])) _
          refine XS.iload W268.here W268.hx rfl (hb hby at_162) rfl ?_
          show Steps p.tables e below (T267.setTop (mkF m 164 #[.val (.int p0), .val (.int p1), .val (.int p2), .val (.int p3), .val (.int en), .val (.int al), .val (.int cr), .val (.ref b0), .val .null, .val (.ref aA), .val (.ref li), .val (.ref us), .unset] [(.int al)])) _
          by_cases hm271 : al = (0 : Int32)
          · refine XS.ifYes W268.here W268.hx rfl (pc0 := 164) (pc' := 173) rfl (hb hby at_164) rfl ((if0 _ _).trans (teq hm271).1) (by decide) (by decide) ?_
            show Steps p.tables e below (T267.setTop (mkF m 173 #[.val (.int p0), .val (.int p1), .val (.int p2), .val (.int p3), .val (.int en), .val (.int al), .val (.int cr), .val (.ref b0), .val .null, .val (.ref aA), .val (.ref li), .val (.ref us), .unset] [])) _
            refine XS.iload W268.here W268.hx rfl (hb hby at_173) rfl ?_
            show Steps p.tables e below (T267.setTop (mkF m 175 #[.val (.int p0), .val (.int p1), .val (.int p2), .val (.int p3), .val (.int en), .val (.int al), .val (.int cr), .val (.ref b0), .val .null, .val (.ref aA), .val (.ref li), .val (.ref us), .unset] [(.int cr)])) _
            refine XS.istore W268.here W268.hx rfl (hb hby at_175) rfl (l' := #[.val (.int p0), .val (.int p1), .val (.int p2), .val (.int p3), .val (.int en), .val (.int al), .val (.int cr), .val (.ref b0), .val .null, .val (.ref aA), .val (.ref li), .val (.ref us), .val (.int cr)]) rfl ?_
            show Steps p.tables e below (T267.setTop (mkF m 177 #[.val (.int p0), .val (.int p1), .val (.int p2), .val (.int p3), .val (.int en), .val (.int al), .val (.int cr), .val (.ref b0), .val .null, .val (.ref aA), .val (.ref li), .val (.ref us), .val (.int cr)] [])) _
            rw [if_neg hm270, if_pos hm271] at h_ex
            subst h_ex
            exact q
          · refine XS.ifNo W268.here W268.hx rfl (hb hby at_164) rfl ((if0 _ _).trans (feq hm271).1) ?_
            show Steps p.tables e below (T267.setTop (mkF m 167 #[.val (.int p0), .val (.int p1), .val (.int p2), .val (.int p3), .val (.int en), .val (.int al), .val (.int cr), .val (.ref b0), .val .null, .val (.ref aA), .val (.ref li), .val (.ref us), .unset] [])) _
            refine XS.iconst W268.here W268.hx rfl (hb hby at_167) ?_
            show Steps p.tables e below (T267.setTop (mkF m 168 #[.val (.int p0), .val (.int p1), .val (.int p2), .val (.int p3), .val (.int en), .val (.int al), .val (.int cr), .val (.ref b0), .val .null, .val (.ref aA), .val (.ref li), .val (.ref us), .unset] [(.int (1 : Int32))])) _
            refine XS.istore W268.here W268.hx rfl (hb hby at_168) rfl (l' := #[.val (.int p0), .val (.int p1), .val (.int p2), .val (.int p3), .val (.int en), .val (.int al), .val (.int cr), .val (.ref b0), .val .null, .val (.ref aA), .val (.ref li), .val (.ref us), .val (.int (1 : Int32))]) rfl ?_
            show Steps p.tables e below (T267.setTop (mkF m 170 #[.val (.int p0), .val (.int p1), .val (.int p2), .val (.int p3), .val (.int en), .val (.int al), .val (.int cr), .val (.ref b0), .val .null, .val (.ref aA), .val (.ref li), .val (.ref us), .val (.int (1 : Int32))] [])) _
            refine XS.goto W268.here W268.hx rfl (pc0 := 170) (pc' := 177) rfl (hb hby at_170) (by decide) (by decide) ?_
            show Steps p.tables e below (T267.setTop (mkF m 177 #[.val (.int p0), .val (.int p1), .val (.int p2), .val (.int p3), .val (.int en), .val (.int al), .val (.int cr), .val (.ref b0), .val .null, .val (.ref aA), .val (.ref li), .val (.ref us), .val (.int (1 : Int32))] [])) _
            rw [if_neg hm270, if_neg hm271] at h_ex
            subst h_ex
            exact q
      refine Go.by mg_ex ?_
      show Go p e below s Z [] _ _ _ (T267.setTop (mkF m 177 #[.val (.int p0), .val (.int p1), .val (.int p2), .val (.int p3), .val (.int en), .val (.int al), .val (.int cr), .val (.ref b0), .val .null, .val (.ref aA), .val (.ref li), .val (.ref us), .val (.int ex)] []))
      refine Go.by (fun t9_ q9_ => XS.aload W268.here W268.hx rfl (hb hby at_177) rfl rfl q9_) ?_
      show Go p e below s Z [] _ _ _ (T267.setTop (mkF m 179 #[.val (.int p0), .val (.int p1), .val (.int p2), .val (.int p3), .val (.int en), .val (.int al), .val (.int cr), .val (.ref b0), .val .null, .val (.ref aA), .val (.ref li), .val (.ref us), .val (.int ex)] [(.ref us)]))
      refine Go.by (fun t9_ q9_ => XS.iload W268.here W268.hx rfl (hb hby at_179) rfl q9_) ?_
      show Go p e below s Z [] _ _ _ (T267.setTop (mkF m 181 #[.val (.int p0), .val (.int p1), .val (.int p2), .val (.int p3), .val (.int en), .val (.int al), .val (.int cr), .val (.ref b0), .val .null, .val (.ref aA), .val (.ref li), .val (.ref us), .val (.int ex)] [(.int cr), (.ref us)]))
      refine W268.callVp (y := (⟨"com/example/secondkey/secondkey/config/Config$User", "owesSecondFactor", "(Z)Z"⟩ : MethodName)) (z := (⟨"com/example/secondkey/secondkey/config/Config$User", "owesSecondFactor", "(Z)Z"⟩ : MethodName)) (wd110 hw) (wd111 hw) (nf_sel rfl (wd113 hw)) (wd113 hw) (wd112 hw) (wd87 hw) (wd114 hw) (by decide) E4 (a := us) (c_owes l Z a0 hw hEL h269 W268.old us aA aA .null rfl cr E4 F4 F5 SA) all0 (by decide) (by decide) (k' := 10) (n' := 42) rfl rfl (by decide) (by decide) (by rw [hml]; rfl) (argsL := [(.int cr)]) (rest := []) (lenOf pd_12 rfl) rfl rfl (Wt := 0) (Nat.le_of_eq rfl) (hb hby at_181) ?_
      intro T272 W273
      show Go p e below s Z [] _ _ _ (T272.setTop (mkF m 184 #[.val (.int p0), .val (.int p1), .val (.int p2), .val (.int p3), .val (.int en), .val (.int al), .val (.int cr), .val (.ref b0), .val .null, .val (.ref aA), .val (.ref li), .val (.ref us), .val (.int ex)] [(.int (if Value.null = .null then (0 : Int32) else if aA = aA then 1 else if cr = 0 then 0 else 1))]))
      refine Go.by (fun t9_ q9_ => XS.iload W273.here W273.hx rfl (hb hby at_184) rfl q9_) ?_
      show Go p e below s Z [] _ _ _ (T272.setTop (mkF m 186 #[.val (.int p0), .val (.int p1), .val (.int p2), .val (.int p3), .val (.int en), .val (.int al), .val (.int cr), .val (.ref b0), .val .null, .val (.ref aA), .val (.ref li), .val (.ref us), .val (.int ex)] [(.int ex), (.int (if Value.null = .null then (0 : Int32) else if aA = aA then 1 else if cr = 0 then 0 else 1))]))
      have he : (if Value.null = .null then (0 : Int32) else if aA = aA then 1 else if cr = 0 then 0 else 1) = ex := by rcases hcr01 with rfl | rfl <;> simp_all
      refine Go.by (fun t9_ q9_ => XS.icmpNo W273.here W273.hx rfl (hb hby at_186) rfl (teq he).2 q9_) ?_
      show Go p e below s Z [] _ _ _ (T272.setTop (mkF m 189 #[.val (.int p0), .val (.int p1), .val (.int p2), .val (.int p3), .val (.int en), .val (.int al), .val (.int cr), .val (.ref b0), .val .null, .val (.ref aA), .val (.ref li), .val (.ref us), .val (.int ex)] []))
      refine Go.by (fun t9_ q9_ => XS.iconst W273.here W273.hx rfl (hb hby at_189) q9_) ?_
      show Go p e below s Z [] _ _ _ (T272.setTop (mkF m 190 #[.val (.int p0), .val (.int p1), .val (.int p2), .val (.int p3), .val (.int en), .val (.int al), .val (.int cr), .val (.ref b0), .val .null, .val (.ref aA), .val (.ref li), .val (.ref us), .val (.int ex)] [(.int (1 : Int32))]))
      refine Go.by (fun t9_ q9_ => XS.goto W273.here W273.hx rfl (pc0 := 190) (pc' := 194) rfl (hb hby at_190) (by decide) (by decide) q9_) ?_
      show Go p e below s Z [] _ _ _ (T272.setTop (mkF m 194 #[.val (.int p0), .val (.int p1), .val (.int p2), .val (.int p3), .val (.int en), .val (.int al), .val (.int cr), .val (.ref b0), .val .null, .val (.ref aA), .val (.ref li), .val (.ref us), .val (.int ex)] [(.int (1 : Int32))]))
      exact W273.retN (z' := (1 : Int32)) (by decide) (by decide) hret (by simp) (hb hby at_194) rfl rfl
  · refine Go.by (fun t9_ q9_ => XS.ifNo W203.here W203.hx rfl (hb hby at_64) rfl ((if0 _ _).trans (feq hen).1) q9_) ?_
    show Go p e below s Z [] _ _ _ (T201.setTop (mkF m 67 #[.val (.int p0), .val (.int p1), .val (.int p2), .val (.int p3), .val (.int en), .val (.int al), .val (.int cr), .val (.ref b0), .unset, .unset, .unset, .unset, .unset] []))
    refine W203.new (wd120 hw) (wd40 hw) (wd32 hw) (hb hby at_67) (k' := 2) (n' := 6) rfl rfl (by decide) (by decide) ?_
    intro T274 h275 st W276 E277 g_st z_st A_st D_st
    have F_value_st : Fld Z h275 st "java/lang/String" "value" "[B" .null := D_st (Or.inr (wd51 hw)) (ty := (.array .byte)) (by decide)
    have F_coder_st : Fld Z h275 st "java/lang/String" "coder" "B" (.int (0 : Int32)) := D_st (Or.inr (wd53 hw)) (ty := .byte) (by decide)
    show Go p e below s Z [] _ _ _ (T274.setTop (mkF m 70 #[.val (.int p0), .val (.int p1), .val (.int p2), .val (.int p3), .val (.int en), .val (.int al), .val (.int cr), .val (.ref b0), .unset, .unset, .unset, .unset, .unset] [(.ref st)]))
    refine Go.by (fun t9_ q9_ => XS.dup W276.here W276.hx rfl (hb hby at_70) rfl rfl q9_) ?_
    show Go p e below s Z [] _ _ _ (T274.setTop (mkF m 71 #[.val (.int p0), .val (.int p1), .val (.int p2), .val (.int p3), .val (.int en), .val (.int al), .val (.int cr), .val (.ref b0), .unset, .unset, .unset, .unset, .unset] [(.ref st), (.ref st)]))
    refine Go.by (fun t9_ q9_ => XS.aload W276.here W276.hx rfl (hb hby at_71) rfl rfl q9_) ?_
    show Go p e below s Z [] _ _ _ (T274.setTop (mkF m 73 #[.val (.int p0), .val (.int p1), .val (.int p2), .val (.int p3), .val (.int en), .val (.int al), .val (.int cr), .val (.ref b0), .unset, .unset, .unset, .unset, .unset] [(.ref b0), (.ref st), (.ref st)]))
    refine W276.strV (cs := [((p1 &&& (255 : Int32)).toUInt32.toUInt16.toUInt32.toInt32), ((p2 &&& (255 : Int32)).toUInt32.toUInt16.toUInt32.toInt32)]) (k_words hw) (wd40 hw) (wd121 hw) (wd122 hw) A_st F_value_st F_coder_st (V205_b0.ext E277) (SG1.ext W276.old) hG (q := 2) rfl rfl (by decide) (by decide) (by intro c hc; simp only [List.mem_cons, List.not_mem_nil, or_false] at hc; rcases hc with rfl | rfl <;> exact k_mask _) z_st (List.mem_of_getElem? (i := 0) rfl) (by decide) (Wt := 1) (by decide) (k' := 3) (n' := 8) rfl rfl (by decide) (by decide) (by rw [hml]; rfl) (Nat.le_of_eq rfl) (hb hby at_73) ?_
    intro T278 h279 W280 K281 S_st
    show Go p e below s Z [] _ _ _ (T278.setTop (mkF m 76 #[.val (.int p0), .val (.int p1), .val (.int p2), .val (.int p3), .val (.int en), .val (.int al), .val (.int cr), .val (.ref b0), .unset, .unset, .unset, .unset, .unset] [(.ref st)]))
    refine Go.by (fun t9_ q9_ => XS.goto W280.here W280.hx rfl (pc0 := 76) (pc' := 80) rfl (hb hby at_76) (by decide) (by decide) q9_) ?_
    show Go p e below s Z [] _ _ _ (T278.setTop (mkF m 80 #[.val (.int p0), .val (.int p1), .val (.int p2), .val (.int p3), .val (.int en), .val (.int al), .val (.int cr), .val (.ref b0), .unset, .unset, .unset, .unset, .unset] [(.ref st)]))
    refine Go.by (fun t9_ q9_ => XS.astore W280.here W280.hx rfl (hb hby at_80) rfl rfl (l' := #[.val (.int p0), .val (.int p1), .val (.int p2), .val (.int p3), .val (.int en), .val (.int al), .val (.int cr), .val (.ref b0), .val (.ref st), .unset, .unset, .unset, .unset]) rfl q9_) ?_
    show Go p e below s Z [] _ _ _ (T278.setTop (mkF m 82 #[.val (.int p0), .val (.int p1), .val (.int p2), .val (.int p3), .val (.int en), .val (.int al), .val (.int cr), .val (.ref b0), .val (.ref st), .unset, .unset, .unset, .unset] []))
    refine Go.by (fun t9_ q9_ => XS.iload W280.here W280.hx rfl (hb hby at_82) rfl q9_) ?_
    show Go p e below s Z [] _ _ _ (T278.setTop (mkF m 84 #[.val (.int p0), .val (.int p1), .val (.int p2), .val (.int p3), .val (.int en), .val (.int al), .val (.int cr), .val (.ref b0), .val (.ref st), .unset, .unset, .unset, .unset] [(.int al)]))
    by_cases hal : al = (0 : Int32)
    · refine Go.by (fun t9_ q9_ => XS.ifYes W280.here W280.hx rfl (pc0 := 84) (pc' := 93) rfl (hb hby at_84) rfl ((if0 _ _).trans (teq hal).1) (by decide) (by decide) q9_) ?_
      show Go p e below s Z [] _ _ _ (T278.setTop (mkF m 93 #[.val (.int p0), .val (.int p1), .val (.int p2), .val (.int p3), .val (.int en), .val (.int al), .val (.int cr), .val (.ref b0), .val (.ref st), .unset, .unset, .unset, .unset] []))
      refine W280.gets (host := "") (Or.inl (wd1 hw)) Via.refl (SW.ext W280.old) (hb hby at_93) ?_
      intro T282 W283
      show Go p e below s Z [] _ _ _ (T282.setTop (mkF m 96 #[.val (.int p0), .val (.int p1), .val (.int p2), .val (.int p3), .val (.int en), .val (.int al), .val (.int cr), .val (.ref b0), .val (.ref st), .unset, .unset, .unset, .unset] [(.ref aW)]))
      refine Go.by (fun t9_ q9_ => XS.astore W283.here W283.hx rfl (hb hby at_96) rfl rfl (l' := #[.val (.int p0), .val (.int p1), .val (.int p2), .val (.int p3), .val (.int en), .val (.int al), .val (.int cr), .val (.ref b0), .val (.ref st), .val (.ref aW), .unset, .unset, .unset]) rfl q9_) ?_
      show Go p e below s Z [] _ _ _ (T282.setTop (mkF m 98 #[.val (.int p0), .val (.int p1), .val (.int p2), .val (.int p3), .val (.int en), .val (.int al), .val (.int cr), .val (.ref b0), .val (.ref st), .val (.ref aW), .unset, .unset, .unset] []))
      refine W283.new (wd4 hw) (wd5 hw) (wd6 hw) (hb hby at_98) (k' := 4) (n' := 11) rfl rfl (by decide) (by decide) ?_
      intro T284 h285 li W286 E287 g_li z_li A_li D_li
      have F_modCount_li : Fld Z h285 li "java/util/AbstractList" "modCount" "I" (.int (0 : Int32)) := D_li (Or.inl (wd26 hw)) (ty := .int) (by decide)
      have F_elementData_li : Fld Z h285 li "java/util/ArrayList" "elementData" "[Ljava/lang/Object;" .null := D_li (Or.inl (wd29 hw)) (ty := (.array (.object "java/lang/Object"))) (by decide)
      have F_size_li : Fld Z h285 li "java/util/ArrayList" "size" "I" (.int (0 : Int32)) := D_li (Or.inl (wd62 hw)) (ty := .int) (by decide)
      show Go p e below s Z [] _ _ _ (T284.setTop (mkF m 101 #[.val (.int p0), .val (.int p1), .val (.int p2), .val (.int p3), .val (.int en), .val (.int al), .val (.int cr), .val (.ref b0), .val (.ref st), .val (.ref aW), .unset, .unset, .unset] [(.ref li)]))
      refine Go.by (fun t9_ q9_ => XS.dup W286.here W286.hx rfl (hb hby at_101) rfl rfl q9_) ?_
      show Go p e below s Z [] _ _ _ (T284.setTop (mkF m 102 #[.val (.int p0), .val (.int p1), .val (.int p2), .val (.int p3), .val (.int en), .val (.int al), .val (.int cr), .val (.ref b0), .val (.ref st), .val (.ref aW), .unset, .unset, .unset] [(.ref li), (.ref li)]))
      refine W286.callI (y := (⟨"java/util/ArrayList", "<init>", "()V"⟩ : MethodName)) rfl (wd7 hw) (wd8 hw) (wd6 hw) (wd9 hw) (by decide) (a := li) (c_alinit l Z a0 hw hEL h285 W286.old li dd A_li F_modCount_li F_elementData_li z_li F_size_li SD) (allS (List.mem_of_getElem? (i := 0) rfl) all0) (by decide) (by decide) (k' := 4) (n' := 11) rfl rfl (by decide) (by decide) (by rw [hml]; rfl) (argsL := []) (rest := [(.ref li)]) (lenOf pd_3 rfl) rfl rfl (Wt := 1) (Nat.le_of_eq rfl) (hb hby at_102) ?_
      intro v_ T288 h290 W289 hq_
      obtain ⟨rfl, K3, g1, g2, g3, g4⟩ := hq_
      show Go p e below s Z [] _ _ _ (T288.setTop (mkF m 105 #[.val (.int p0), .val (.int p1), .val (.int p2), .val (.int p3), .val (.int en), .val (.int al), .val (.int cr), .val (.ref b0), .val (.ref st), .val (.ref aW), .unset, .unset, .unset] [(.ref li)]))
      refine Go.by (fun t9_ q9_ => XS.astore W289.here W289.hx rfl (hb hby at_105) rfl rfl (l' := #[.val (.int p0), .val (.int p1), .val (.int p2), .val (.int p3), .val (.int en), .val (.int al), .val (.int cr), .val (.ref b0), .val (.ref st), .val (.ref aW), .val (.ref li), .unset, .unset]) rfl q9_) ?_
      show Go p e below s Z [] _ _ _ (T288.setTop (mkF m 107 #[.val (.int p0), .val (.int p1), .val (.int p2), .val (.int p3), .val (.int en), .val (.int al), .val (.int cr), .val (.ref b0), .val (.ref st), .val (.ref aW), .val (.ref li), .unset, .unset] []))
      refine Go.by (fun t9_ q9_ => XS.aload W289.here W289.hx rfl (hb hby at_107) rfl rfl q9_) ?_
      show Go p e below s Z [] _ _ _ (T288.setTop (mkF m 109 #[.val (.int p0), .val (.int p1), .val (.int p2), .val (.int p3), .val (.int en), .val (.int al), .val (.int cr), .val (.ref b0), .val (.ref st), .val (.ref aW), .val (.ref li), .unset, .unset] [(.ref li)]))
      refine Go.by (fun t9_ q9_ => XS.iloadN W289.here W289.hx rfl (hb hby at_109) rfl q9_) ?_
      show Go p e below s Z [] _ _ _ (T288.setTop (mkF m 110 #[.val (.int p0), .val (.int p1), .val (.int p2), .val (.int p3), .val (.int en), .val (.int al), .val (.int cr), .val (.ref b0), .val (.ref st), .val (.ref aW), .val (.ref li), .unset, .unset] [(.int p3), (.ref li)]))
      refine Go.by (fun t9_ q9_ => XS.sipush W289.here W289.hx rfl (hb hby at_110) q9_) ?_
      show Go p e below s Z [] _ _ _ (T288.setTop (mkF m 113 #[.val (.int p0), .val (.int p1), .val (.int p2), .val (.int p3), .val (.int en), .val (.int al), .val (.int cr), .val (.ref b0), .val (.ref st), .val (.ref aW), .val (.ref li), .unset, .unset] [(.int (255 : Int32)), (.int p3), (.ref li)]))
      refine Go.by (fun t9_ q9_ => XS.iand W289.here W289.hx rfl (hb hby at_113) rfl q9_) ?_
      show Go p e below s Z [] _ _ _ (T288.setTop (mkF m 114 #[.val (.int p0), .val (.int p1), .val (.int p2), .val (.int p3), .val (.int en), .val (.int al), .val (.int cr), .val (.ref b0), .val (.ref st), .val (.ref aW), .val (.ref li), .unset, .unset] [(.int (p3 &&& (255 : Int32))), (.ref li)]))
      refine Go.by (fun t9_ q9_ => XS.i2c W289.here W289.hx rfl (hb hby at_114) rfl q9_) ?_
      show Go p e below s Z [] _ _ _ (T288.setTop (mkF m 115 #[.val (.int p0), .val (.int p1), .val (.int p2), .val (.int p3), .val (.int en), .val (.int al), .val (.int cr), .val (.ref b0), .val (.ref st), .val (.ref aW), .val (.ref li), .unset, .unset] [(.int ((p3 &&& (255 : Int32)).toUInt32.toUInt16.toUInt32.toInt32)), (.ref li)]))
      refine W289.callS (y := (⟨"java/lang/String", "valueOf", "(C)Ljava/lang/String;"⟩ : MethodName)) (wd30 hw) (wd31 hw) (wd32 hw) (wd33 hw) (by decide) (c_valueof l Z a0 hw hEL h290 W289.old G1 _ SG1 hG (k_mask _).1 (k_mask _).2) all0 (by decide) (by decide) (k' := 6) (n' := 16) rfl rfl (by decide) (by decide) (by rw [hml]; rfl) (argsL := [(.int ((p3 &&& (255 : Int32)).toUInt32.toUInt16.toUInt32.toInt32))]) (rest := [(.ref li)]) (lenOf pd_9 rfl) rfl rfl (Wt := 1) (Nat.le_of_eq rfl) (hb hby at_115) ?_
      intro v_ T291 h293 W292 hq_
      obtain ⟨s1, rfl, X2, S_s1⟩ := hq_
      show Go p e below s Z [] _ _ _ (T291.setTop (mkF m 118 #[.val (.int p0), .val (.int p1), .val (.int p2), .val (.int p3), .val (.int en), .val (.int al), .val (.int cr), .val (.ref b0), .val (.ref st), .val (.ref aW), .val (.ref li), .unset, .unset] [(.ref s1), (.ref li)]))
      refine W292.callV (y := (⟨"java/util/ArrayList", "add", "(Ljava/lang/Object;)Z"⟩ : MethodName)) (z := (⟨"java/util/ArrayList", "add", "(Ljava/lang/Object;)Z"⟩ : MethodName)) (wd54 hw) (wd55 hw) (nf_sel rfl (wd57 hw)) (wd57 hw) (wd56 hw) (wd6 hw) (wd58 hw) (by decide) (g1.ext X2) (a := li) (c_add1 l Z a0 hw hEL h293 W292.old li dd kd 0 s1 (g1.ext X2) (g2.ext X2) (g3.ext X2) (g4.ext X2) z_li SD DA S_s1.exa) (allS (List.mem_of_getElem? (i := 0) rfl) all0) (by decide) (by decide) (k' := 7) (n' := 26) rfl rfl (by decide) (by decide) (by rw [hml]; rfl) (argsL := [(.ref s1)]) (rest := []) (lenOf pd_10 rfl) rfl rfl (Wt := 0) (Nat.le_of_eq rfl) (hb hby at_118) ?_
      intro v_ T294 h296 W295 hq_
      obtain ⟨rfl, K5⟩ := hq_
      show Go p e below s Z [] _ _ _ (T294.setTop (mkF m 121 #[.val (.int p0), .val (.int p1), .val (.int p2), .val (.int p3), .val (.int en), .val (.int al), .val (.int cr), .val (.ref b0), .val (.ref st), .val (.ref aW), .val (.ref li), .unset, .unset] [(.int (1 : Int32))]))
      refine Go.by (fun t9_ q9_ => XS.pop W295.here W295.hx rfl (hb hby at_121) rfl rfl q9_) ?_
      show Go p e below s Z [] _ _ _ (T294.setTop (mkF m 122 #[.val (.int p0), .val (.int p1), .val (.int p2), .val (.int p3), .val (.int en), .val (.int al), .val (.int cr), .val (.ref b0), .val (.ref st), .val (.ref aW), .val (.ref li), .unset, .unset] []))
      refine W295.new (wd85 hw) (wd86 hw) (wd87 hw) (hb hby at_122) (k' := 8) (n' := 31) rfl rfl (by decide) (by decide) ?_
      intro T297 h298 us W299 E300 g_us z_us A_us D_us
      have F_username_us : Fld Z h298 us "com/example/secondkey/secondkey/config/Config$User" "username" "Ljava/lang/String;" .null := D_us (Or.inr (wd101 hw)) (ty := (.object "java/lang/String")) (by decide)
      have F_password_us : Fld Z h298 us "com/example/secondkey/secondkey/config/Config$User" "password" "Ljava/lang/String;" .null := D_us (Or.inr (wd103 hw)) (ty := (.object "java/lang/String")) (by decide)
      have F_roles_us : Fld Z h298 us "com/example/secondkey/secondkey/config/Config$User" "roles" "Ljava/util/List;" .null := D_us (Or.inr (wd105 hw)) (ty := (.object "java/util/List")) (by decide)
      have F_totpSecret_us : Fld Z h298 us "com/example/secondkey/secondkey/config/Config$User" "totpSecret" "Ljava/lang/String;" .null := D_us (Or.inr (wd107 hw)) (ty := (.object "java/lang/String")) (by decide)
      have F_secondFactor_us : Fld Z h298 us "com/example/secondkey/secondkey/config/Config$User" "secondFactor" "Lcom/example/secondkey/secondkey/config/Config$SecondFactor;" .null := D_us (Or.inr (wd109 hw)) (ty := (.object "com/example/secondkey/secondkey/config/Config$SecondFactor")) (by decide)
      show Go p e below s Z [] _ _ _ (T297.setTop (mkF m 125 #[.val (.int p0), .val (.int p1), .val (.int p2), .val (.int p3), .val (.int en), .val (.int al), .val (.int cr), .val (.ref b0), .val (.ref st), .val (.ref aW), .val (.ref li), .unset, .unset] [(.ref us)]))
      refine Go.by (fun t9_ q9_ => XS.dup W299.here W299.hx rfl (hb hby at_125) rfl rfl q9_) ?_
      show Go p e below s Z [] _ _ _ (T297.setTop (mkF m 126 #[.val (.int p0), .val (.int p1), .val (.int p2), .val (.int p3), .val (.int en), .val (.int al), .val (.int cr), .val (.ref b0), .val (.ref st), .val (.ref aW), .val (.ref li), .unset, .unset] [(.ref us), (.ref us)]))
      refine Go.by (fun t9_ q9_ => XS.iloadN W299.here W299.hx rfl (hb hby at_126) rfl q9_) ?_
      show Go p e below s Z [] _ _ _ (T297.setTop (mkF m 127 #[.val (.int p0), .val (.int p1), .val (.int p2), .val (.int p3), .val (.int en), .val (.int al), .val (.int cr), .val (.ref b0), .val (.ref st), .val (.ref aW), .val (.ref li), .unset, .unset] [(.int p3), (.ref us), (.ref us)]))
      refine Go.by (fun t9_ q9_ => XS.bipush W299.here W299.hx rfl (hb hby at_127) q9_) ?_
      show Go p e below s Z [] _ _ _ (T297.setTop (mkF m 129 #[.val (.int p0), .val (.int p1), .val (.int p2), .val (.int p3), .val (.int en), .val (.int al), .val (.int cr), .val (.ref b0), .val (.ref st), .val (.ref aW), .val (.ref li), .unset, .unset] [(.int (8 : Int32)), (.int p3), (.ref us), (.ref us)]))
      refine Go.by (fun t9_ q9_ => XS.iushr W299.here W299.hx rfl (hb hby at_129) rfl q9_) ?_
      show Go p e below s Z [] _ _ _ (T297.setTop (mkF m 130 #[.val (.int p0), .val (.int p1), .val (.int p2), .val (.int p3), .val (.int en), .val (.int al), .val (.int cr), .val (.ref b0), .val (.ref st), .val (.ref aW), .val (.ref li), .unset, .unset] [(.int ((p3.toUInt32 >>> ((8 : Int32) &&& 31).toUInt32).toInt32)), (.ref us), (.ref us)]))
      refine Go.by (fun t9_ q9_ => XS.sipush W299.here W299.hx rfl (hb hby at_130) q9_) ?_
      show Go p e below s Z [] _ _ _ (T297.setTop (mkF m 133 #[.val (.int p0), .val (.int p1), .val (.int p2), .val (.int p3), .val (.int en), .val (.int al), .val (.int cr), .val (.ref b0), .val (.ref st), .val (.ref aW), .val (.ref li), .unset, .unset] [(.int (255 : Int32)), (.int ((p3.toUInt32 >>> ((8 : Int32) &&& 31).toUInt32).toInt32)), (.ref us), (.ref us)]))
      refine Go.by (fun t9_ q9_ => XS.iand W299.here W299.hx rfl (hb hby at_133) rfl q9_) ?_
      show Go p e below s Z [] _ _ _ (T297.setTop (mkF m 134 #[.val (.int p0), .val (.int p1), .val (.int p2), .val (.int p3), .val (.int en), .val (.int al), .val (.int cr), .val (.ref b0), .val (.ref st), .val (.ref aW), .val (.ref li), .unset, .unset] [(.int (((p3.toUInt32 >>> ((8 : Int32) &&& 31).toUInt32).toInt32) &&& (255 : Int32))), (.ref us), (.ref us)]))
      refine Go.by (fun t9_ q9_ => XS.i2c W299.here W299.hx rfl (hb hby at_134) rfl q9_) ?_
      show Go p e below s Z [] _ _ _ (T297.setTop (mkF m 135 #[.val (.int p0), .val (.int p1), .val (.int p2), .val (.int p3), .val (.int en), .val (.int al), .val (.int cr), .val (.ref b0), .val (.ref st), .val (.ref aW), .val (.ref li), .unset, .unset] [(.int ((((p3.toUInt32 >>> ((8 : Int32) &&& 31).toUInt32).toInt32) &&& (255 : Int32)).toUInt32.toUInt16.toUInt32.toInt32)), (.ref us), (.ref us)]))
      refine W299.callS (y := (⟨"java/lang/String", "valueOf", "(C)Ljava/lang/String;"⟩ : MethodName)) (wd30 hw) (wd31 hw) (wd32 hw) (wd33 hw) (by decide) (c_valueof l Z a0 hw hEL h298 W299.old G1 _ SG1 hG (k_mask _).1 (k_mask _).2) all0 (by decide) (by decide) (k' := 10) (n' := 36) rfl rfl (by decide) (by decide) (by rw [hml]; rfl) (argsL := [(.int ((((p3.toUInt32 >>> ((8 : Int32) &&& 31).toUInt32).toInt32) &&& (255 : Int32)).toUInt32.toUInt16.toUInt32.toInt32))]) (rest := [(.ref us), (.ref us)]) (lenOf pd_9 rfl) rfl rfl (Wt := 2) (Nat.le_of_eq rfl) (hb hby at_135) ?_
      intro v_ T301 h303 W302 hq_
      obtain ⟨s2, rfl, X6, S_s2⟩ := hq_
      show Go p e below s Z [] _ _ _ (T301.setTop (mkF m 138 #[.val (.int p0), .val (.int p1), .val (.int p2), .val (.int p3), .val (.int en), .val (.int al), .val (.int cr), .val (.ref b0), .val (.ref st), .val (.ref aW), .val (.ref li), .unset, .unset] [(.ref s2), (.ref us), (.ref us)]))
      refine W302.ldcO (wd88 hw) (k_sa hw) (hb hby at_138) (q := 8) (by decide +kernel) (by decide) (k' := 12) (n' := 48) rfl rfl (by decide) (by decide) ?_
      intro T304 h305 pw W306 E307
      show Go p e below s Z [] _ _ _ (T304.setTop (mkF m 140 #[.val (.int p0), .val (.int p1), .val (.int p2), .val (.int p3), .val (.int en), .val (.int al), .val (.int cr), .val (.ref b0), .val (.ref st), .val (.ref aW), .val (.ref li), .unset, .unset] [(.ref pw), (.ref s2), (.ref us), (.ref us)]))
      refine Go.by (fun t9_ q9_ => XS.aload W306.here W306.hx rfl (hb hby at_140) rfl rfl q9_) ?_
      show Go p e below s Z [] _ _ _ (T304.setTop (mkF m 142 #[.val (.int p0), .val (.int p1), .val (.int p2), .val (.int p3), .val (.int en), .val (.int al), .val (.int cr), .val (.ref b0), .val (.ref st), .val (.ref aW), .val (.ref li), .unset, .unset] [(.ref li), (.ref pw), (.ref s2), (.ref us), (.ref us)]))
      refine Go.by (fun t9_ q9_ => XS.aload W306.here W306.hx rfl (hb hby at_142) rfl rfl q9_) ?_
      show Go p e below s Z [] _ _ _ (T304.setTop (mkF m 144 #[.val (.int p0), .val (.int p1), .val (.int p2), .val (.int p3), .val (.int en), .val (.int al), .val (.int cr), .val (.ref b0), .val (.ref st), .val (.ref aW), .val (.ref li), .unset, .unset] [(.ref st), (.ref li), (.ref pw), (.ref s2), (.ref us), (.ref us)]))
      refine Go.by (fun t9_ q9_ => XS.aload W306.here W306.hx rfl (hb hby at_144) rfl rfl q9_) ?_
      show Go p e below s Z [] _ _ _ (T304.setTop (mkF m 146 #[.val (.int p0), .val (.int p1), .val (.int p2), .val (.int p3), .val (.int en), .val (.int al), .val (.int cr), .val (.ref b0), .val (.ref st), .val (.ref aW), .val (.ref li), .unset, .unset] [(.ref aW), (.ref st), (.ref li), (.ref pw), (.ref s2), (.ref us), (.ref us)]))
      have X308 : Ext h298 h305 := (Ext.trans' X6 E307)
      refine W306.callI (y := (⟨"com/example/secondkey/secondkey/config/Config$User", "<init>", "(Ljava/lang/String;Ljava/lang/String;Ljava/util/List;Ljava/lang/String;Lcom/example/secondkey/secondkey/config/Config$SecondFactor;)V"⟩ : MethodName)) rfl (wd91 hw) (wd92 hw) (wd87 hw) (wd93 hw) (by decide) (a := us) (c_user l Z a0 hw hEL h305 W306.old us s2 pw li aW (.ref st) rfl (A_us.ext X308) (F_username_us.ext X308) (F_password_us.ext X308) (F_roles_us.ext X308) (F_totpSecret_us.ext X308) (F_secondFactor_us.ext X308) z_us) (allS (List.mem_of_getElem? (i := 0) rfl) all0) (by decide) (by decide) (k' := 12) (n' := 48) rfl rfl (by decide) (by decide) (by rw [hml]; rfl) (argsL := [(.ref s2), (.ref pw), (.ref li), (.ref st), (.ref aW)]) (rest := [(.ref us)]) (lenOf pd_11 rfl) rfl rfl (Wt := 1) (Nat.le_of_eq rfl) (hb hby at_146) ?_
      intro v_ T309 h311 W310 hq_
      obtain ⟨rfl, K4, E4, F4, F5⟩ := hq_
      show Go p e below s Z [] _ _ _ (T309.setTop (mkF m 149 #[.val (.int p0), .val (.int p1), .val (.int p2), .val (.int p3), .val (.int en), .val (.int al), .val (.int cr), .val (.ref b0), .val (.ref st), .val (.ref aW), .val (.ref li), .unset, .unset] [(.ref us)]))
      refine Go.by (fun t9_ q9_ => XS.astore W310.here W310.hx rfl (hb hby at_149) rfl rfl (l' := #[.val (.int p0), .val (.int p1), .val (.int p2), .val (.int p3), .val (.int en), .val (.int al), .val (.int cr), .val (.ref b0), .val (.ref st), .val (.ref aW), .val (.ref li), .val (.ref us), .unset]) rfl q9_) ?_
      show Go p e below s Z [] _ _ _ (T309.setTop (mkF m 151 #[.val (.int p0), .val (.int p1), .val (.int p2), .val (.int p3), .val (.int en), .val (.int al), .val (.int cr), .val (.ref b0), .val (.ref st), .val (.ref aW), .val (.ref li), .val (.ref us), .unset] []))
      refine Go.by (fun t9_ q9_ => XS.iload W310.here W310.hx rfl (hb hby at_151) rfl q9_) ?_
      show Go p e below s Z [] _ _ _ (T309.setTop (mkF m 153 #[.val (.int p0), .val (.int p1), .val (.int p2), .val (.int p3), .val (.int en), .val (.int al), .val (.int cr), .val (.ref b0), .val (.ref st), .val (.ref aW), .val (.ref li), .val (.ref us), .unset] [(.int en)]))
      obtain ⟨ex, h_ex⟩ : ∃ z : Int32, z = (if en = (0 : Int32) then (0 : Int32) else (if al = (0 : Int32) then cr else (1 : Int32))) := ⟨_, rfl⟩
      have mg_ex : ∀ t, Steps p.tables e below (T309.setTop (mkF m 177 #[.val (.int p0), .val (.int p1), .val (.int p2), .val (.int p3), .val (.int en), .val (.int al), .val (.int cr), .val (.ref b0), .val (.ref st), .val (.ref aW), .val (.ref li), .val (.ref us), .val (.int ex)] [])) t → Steps p.tables e below (T309.setTop (mkF m 153 #[.val (.int p0), .val (.int p1), .val (.int p2), .val (.int p3), .val (.int en), .val (.int al), .val (.int cr), .val (.ref b0), .val (.ref st), .val (.ref aW), .val (.ref li), .val (.ref us), .unset] [(.int en)])) t := by
        intro t q
        by_cases hm312 : en = (0 : Int32)
        · refine XS.ifNo W310.here W310.hx rfl (hb hby at_153) rfl ((if0 _ _).trans (teq hm312).2) ?_
          show Steps p.tables e below (T309.setTop (mkF m 156 #[.val (.int p0), .val (.int p1), .val (.int p2), .val (.int p3), .val (.int en), .val (.int al), .val (.int cr), .val (.ref b0), .val (.ref st), .val (.ref aW), .val (.ref li), .val (.ref us), .unset] [])) _
          refine XS.iconst W310.here W310.hx rfl (hb hby at_156) ?_
          show Steps p.tables e below (T309.setTop (mkF m 157 #[.val (.int p0), .val (.int p1), .val (.int p2), .val (.int p3), .val (.int en), .val (.int al), .val (.int cr), .val (.ref b0), .val (.ref st), .val (.ref aW), .val (.ref li), .val (.ref us), .unset] [(.int (0 : Int32))])) _
          refine XS.istore W310.here W310.hx rfl (hb hby at_157) rfl (l' := #[.val (.int p0), .val (.int p1), .val (.int p2), .val (.int p3), .val (.int en), .val (.int al), .val (.int cr), .val (.ref b0), .val (.ref st), .val (.ref aW), .val (.ref li), .val (.ref us), .val (.int (0 : Int32))]) rfl ?_
          show Steps p.tables e below (T309.setTop (mkF m 159 #[.val (.int p0), .val (.int p1), .val (.int p2), .val (.int p3), .val (.int en), .val (.int al), .val (.int cr), .val (.ref b0), .val (.ref st), .val (.ref aW), .val (.ref li), .val (.ref us), .val (.int (0 : Int32))] [])) _
          refine XS.goto W310.here W310.hx rfl (pc0 := 159) (pc' := 177) rfl (hb hby at_159) (by decide) (by decide) ?_
          show Steps p.tables e below (T309.setTop (mkF m 177 #[.val (.int p0), .val (.int p1), .val (.int p2), .val (.int p3), .val (.int en), .val (.int al), .val (.int cr), .val (.ref b0), .val (.ref st), .val (.ref aW), .val (.ref li), .val (.ref us), .val (.int (0 : Int32))] [])) _
          rw [if_pos hm312] at h_ex
          subst h_ex
          exact q
        · refine XS.ifYes W310.here W310.hx rfl (pc0 := 153) (pc' := 162) rfl (hb hby at_153) rfl ((if0 _ _).trans (feq hm312).2) (by decide) (by decide) ?_
          show Steps p.tables e below (T309.setTop (mkF m 162 #[.val (.int p0), .val (.int p1), .val (.int p2), .val (.int p3), .val (.int en), .val (.int al), .val (.int cr), .val (.ref b0), .val (.ref st), .val (.ref aW), .val (.ref li), .val (.ref us), .unset] [])) _
          refine XS.iload W310.here W310.hx rfl (hb hby at_162) rfl ?_
          show Steps p.tables e below (T309.setTop (mkF m 164 #[.val (.int p0), .val (.int p1), .val (.int p2), .val (.int p3), .val (.int en), .val (.int al), .val (.int cr), .val (.ref b0), .val (.ref st), .val (.ref aW), .val (.ref li), .val (.ref us), .unset] [(.int al)])) _
          by_cases hm313 : al = (0 : Int32)
          · refine XS.ifYes W310.here W310.hx rfl (pc0 := 164) (pc' := 173) rfl (hb hby at_164) rfl ((if0 _ _).trans (teq hm313).1) (by decide) (by decide) ?_
            show Steps p.tables e below (T309.setTop (mkF m 173 #[.val (.int p0), .val (.int p1), .val (.int p2), .val (.int p3), .val (.int en), .val (.int al), .val (.int cr), .val (.ref b0), .val (.ref st), .val (.ref aW), .val (.ref li), .val (.ref us), .unset] [])) _
            refine XS.iload W310.here W310.hx rfl (hb hby at_173) rfl ?_
            show Steps p.tables e below (T309.setTop (mkF m 175 #[.val (.int p0), .val (.int p1), .val (.int p2), .val (.int p3), .val (.int en), .val (.int al), .val (.int cr), .val (.ref b0), .val (.ref st), .val (.ref aW), .val (.ref li), .val (.ref us), .unset] [(.int cr)])) _
            refine XS.istore W310.here W310.hx rfl (hb hby at_175) rfl (l' := #[.val (.int p0), .val (.int p1), .val (.int p2), .val (.int p3), .val (.int en), .val (.int al), .val (.int cr), .val (.ref b0), .val (.ref st), .val (.ref aW), .val (.ref li), .val (.ref us), .val (.int cr)]) rfl ?_
            show Steps p.tables e below (T309.setTop (mkF m 177 #[.val (.int p0), .val (.int p1), .val (.int p2), .val (.int p3), .val (.int en), .val (.int al), .val (.int cr), .val (.ref b0), .val (.ref st), .val (.ref aW), .val (.ref li), .val (.ref us), .val (.int cr)] [])) _
            rw [if_neg hm312, if_pos hm313] at h_ex
            subst h_ex
            exact q
          · refine XS.ifNo W310.here W310.hx rfl (hb hby at_164) rfl ((if0 _ _).trans (feq hm313).1) ?_
            show Steps p.tables e below (T309.setTop (mkF m 167 #[.val (.int p0), .val (.int p1), .val (.int p2), .val (.int p3), .val (.int en), .val (.int al), .val (.int cr), .val (.ref b0), .val (.ref st), .val (.ref aW), .val (.ref li), .val (.ref us), .unset] [])) _
            refine XS.iconst W310.here W310.hx rfl (hb hby at_167) ?_
            show Steps p.tables e below (T309.setTop (mkF m 168 #[.val (.int p0), .val (.int p1), .val (.int p2), .val (.int p3), .val (.int en), .val (.int al), .val (.int cr), .val (.ref b0), .val (.ref st), .val (.ref aW), .val (.ref li), .val (.ref us), .unset] [(.int (1 : Int32))])) _
            refine XS.istore W310.here W310.hx rfl (hb hby at_168) rfl (l' := #[.val (.int p0), .val (.int p1), .val (.int p2), .val (.int p3), .val (.int en), .val (.int al), .val (.int cr), .val (.ref b0), .val (.ref st), .val (.ref aW), .val (.ref li), .val (.ref us), .val (.int (1 : Int32))]) rfl ?_
            show Steps p.tables e below (T309.setTop (mkF m 170 #[.val (.int p0), .val (.int p1), .val (.int p2), .val (.int p3), .val (.int en), .val (.int al), .val (.int cr), .val (.ref b0), .val (.ref st), .val (.ref aW), .val (.ref li), .val (.ref us), .val (.int (1 : Int32))] [])) _
            refine XS.goto W310.here W310.hx rfl (pc0 := 170) (pc' := 177) rfl (hb hby at_170) (by decide) (by decide) ?_
            show Steps p.tables e below (T309.setTop (mkF m 177 #[.val (.int p0), .val (.int p1), .val (.int p2), .val (.int p3), .val (.int en), .val (.int al), .val (.int cr), .val (.ref b0), .val (.ref st), .val (.ref aW), .val (.ref li), .val (.ref us), .val (.int (1 : Int32))] [])) _
            rw [if_neg hm312, if_neg hm313] at h_ex
            subst h_ex
            exact q
      refine Go.by mg_ex ?_
      show Go p e below s Z [] _ _ _ (T309.setTop (mkF m 177 #[.val (.int p0), .val (.int p1), .val (.int p2), .val (.int p3), .val (.int en), .val (.int al), .val (.int cr), .val (.ref b0), .val (.ref st), .val (.ref aW), .val (.ref li), .val (.ref us), .val (.int ex)] []))
      refine Go.by (fun t9_ q9_ => XS.aload W310.here W310.hx rfl (hb hby at_177) rfl rfl q9_) ?_
      show Go p e below s Z [] _ _ _ (T309.setTop (mkF m 179 #[.val (.int p0), .val (.int p1), .val (.int p2), .val (.int p3), .val (.int en), .val (.int al), .val (.int cr), .val (.ref b0), .val (.ref st), .val (.ref aW), .val (.ref li), .val (.ref us), .val (.int ex)] [(.ref us)]))
      refine Go.by (fun t9_ q9_ => XS.iload W310.here W310.hx rfl (hb hby at_179) rfl q9_) ?_
      show Go p e below s Z [] _ _ _ (T309.setTop (mkF m 181 #[.val (.int p0), .val (.int p1), .val (.int p2), .val (.int p3), .val (.int en), .val (.int al), .val (.int cr), .val (.ref b0), .val (.ref st), .val (.ref aW), .val (.ref li), .val (.ref us), .val (.int ex)] [(.int cr), (.ref us)]))
      refine W310.callVp (y := (⟨"com/example/secondkey/secondkey/config/Config$User", "owesSecondFactor", "(Z)Z"⟩ : MethodName)) (z := (⟨"com/example/secondkey/secondkey/config/Config$User", "owesSecondFactor", "(Z)Z"⟩ : MethodName)) (wd110 hw) (wd111 hw) (nf_sel rfl (wd113 hw)) (wd113 hw) (wd112 hw) (wd87 hw) (wd114 hw) (by decide) E4 (a := us) (c_owes l Z a0 hw hEL h311 W310.old us aW aA (.ref st) rfl cr E4 F4 F5 SA) all0 (by decide) (by decide) (k' := 12) (n' := 48) rfl rfl (by decide) (by decide) (by rw [hml]; rfl) (argsL := [(.int cr)]) (rest := []) (lenOf pd_12 rfl) rfl rfl (Wt := 0) (Nat.le_of_eq rfl) (hb hby at_181) ?_
      intro T314 W315
      show Go p e below s Z [] _ _ _ (T314.setTop (mkF m 184 #[.val (.int p0), .val (.int p1), .val (.int p2), .val (.int p3), .val (.int en), .val (.int al), .val (.int cr), .val (.ref b0), .val (.ref st), .val (.ref aW), .val (.ref li), .val (.ref us), .val (.int ex)] [(.int (if (Value.ref st) = .null then (0 : Int32) else if aW = aA then 1 else if cr = 0 then 0 else 1))]))
      refine Go.by (fun t9_ q9_ => XS.iload W315.here W315.hx rfl (hb hby at_184) rfl q9_) ?_
      show Go p e below s Z [] _ _ _ (T314.setTop (mkF m 186 #[.val (.int p0), .val (.int p1), .val (.int p2), .val (.int p3), .val (.int en), .val (.int al), .val (.int cr), .val (.ref b0), .val (.ref st), .val (.ref aW), .val (.ref li), .val (.ref us), .val (.int ex)] [(.int ex), (.int (if (Value.ref st) = .null then (0 : Int32) else if aW = aA then 1 else if cr = 0 then 0 else 1))]))
      have he : (if (Value.ref st) = .null then (0 : Int32) else if aW = aA then 1 else if cr = 0 then 0 else 1) = ex := by rcases hcr01 with rfl | rfl <;> simp_all
      refine Go.by (fun t9_ q9_ => XS.icmpNo W315.here W315.hx rfl (hb hby at_186) rfl (teq he).2 q9_) ?_
      show Go p e below s Z [] _ _ _ (T314.setTop (mkF m 189 #[.val (.int p0), .val (.int p1), .val (.int p2), .val (.int p3), .val (.int en), .val (.int al), .val (.int cr), .val (.ref b0), .val (.ref st), .val (.ref aW), .val (.ref li), .val (.ref us), .val (.int ex)] []))
      refine Go.by (fun t9_ q9_ => XS.iconst W315.here W315.hx rfl (hb hby at_189) q9_) ?_
      show Go p e below s Z [] _ _ _ (T314.setTop (mkF m 190 #[.val (.int p0), .val (.int p1), .val (.int p2), .val (.int p3), .val (.int en), .val (.int al), .val (.int cr), .val (.ref b0), .val (.ref st), .val (.ref aW), .val (.ref li), .val (.ref us), .val (.int ex)] [(.int (1 : Int32))]))
      refine Go.by (fun t9_ q9_ => XS.goto W315.here W315.hx rfl (pc0 := 190) (pc' := 194) rfl (hb hby at_190) (by decide) (by decide) q9_) ?_
      show Go p e below s Z [] _ _ _ (T314.setTop (mkF m 194 #[.val (.int p0), .val (.int p1), .val (.int p2), .val (.int p3), .val (.int en), .val (.int al), .val (.int cr), .val (.ref b0), .val (.ref st), .val (.ref aW), .val (.ref li), .val (.ref us), .val (.int ex)] [(.int (1 : Int32))]))
      exact W315.retN (z' := (1 : Int32)) (by decide) (by decide) hret (by simp) (hb hby at_194) rfl rfl
    · refine Go.by (fun t9_ q9_ => XS.ifNo W280.here W280.hx rfl (hb hby at_84) rfl ((if0 _ _).trans (feq hal).1) q9_) ?_
      show Go p e below s Z [] _ _ _ (T278.setTop (mkF m 87 #[.val (.int p0), .val (.int p1), .val (.int p2), .val (.int p3), .val (.int en), .val (.int al), .val (.int cr), .val (.ref b0), .val (.ref st), .unset, .unset, .unset, .unset] []))
      refine W280.gets (host := "") (Or.inl (wd137 hw)) Via.refl (SA.ext W280.old) (hb hby at_87) ?_
      intro T316 W317
      show Go p e below s Z [] _ _ _ (T316.setTop (mkF m 90 #[.val (.int p0), .val (.int p1), .val (.int p2), .val (.int p3), .val (.int en), .val (.int al), .val (.int cr), .val (.ref b0), .val (.ref st), .unset, .unset, .unset, .unset] [(.ref aA)]))
      refine Go.by (fun t9_ q9_ => XS.goto W317.here W317.hx rfl (pc0 := 90) (pc' := 96) rfl (hb hby at_90) (by decide) (by decide) q9_) ?_
      show Go p e below s Z [] _ _ _ (T316.setTop (mkF m 96 #[.val (.int p0), .val (.int p1), .val (.int p2), .val (.int p3), .val (.int en), .val (.int al), .val (.int cr), .val (.ref b0), .val (.ref st), .unset, .unset, .unset, .unset] [(.ref aA)]))
      refine Go.by (fun t9_ q9_ => XS.astore W317.here W317.hx rfl (hb hby at_96) rfl rfl (l' := #[.val (.int p0), .val (.int p1), .val (.int p2), .val (.int p3), .val (.int en), .val (.int al), .val (.int cr), .val (.ref b0), .val (.ref st), .val (.ref aA), .unset, .unset, .unset]) rfl q9_) ?_
      show Go p e below s Z [] _ _ _ (T316.setTop (mkF m 98 #[.val (.int p0), .val (.int p1), .val (.int p2), .val (.int p3), .val (.int en), .val (.int al), .val (.int cr), .val (.ref b0), .val (.ref st), .val (.ref aA), .unset, .unset, .unset] []))
      refine W317.new (wd4 hw) (wd5 hw) (wd6 hw) (hb hby at_98) (k' := 4) (n' := 11) rfl rfl (by decide) (by decide) ?_
      intro T318 h319 li W320 E321 g_li z_li A_li D_li
      have F_modCount_li : Fld Z h319 li "java/util/AbstractList" "modCount" "I" (.int (0 : Int32)) := D_li (Or.inl (wd26 hw)) (ty := .int) (by decide)
      have F_elementData_li : Fld Z h319 li "java/util/ArrayList" "elementData" "[Ljava/lang/Object;" .null := D_li (Or.inl (wd29 hw)) (ty := (.array (.object "java/lang/Object"))) (by decide)
      have F_size_li : Fld Z h319 li "java/util/ArrayList" "size" "I" (.int (0 : Int32)) := D_li (Or.inl (wd62 hw)) (ty := .int) (by decide)
      show Go p e below s Z [] _ _ _ (T318.setTop (mkF m 101 #[.val (.int p0), .val (.int p1), .val (.int p2), .val (.int p3), .val (.int en), .val (.int al), .val (.int cr), .val (.ref b0), .val (.ref st), .val (.ref aA), .unset, .unset, .unset] [(.ref li)]))
      refine Go.by (fun t9_ q9_ => XS.dup W320.here W320.hx rfl (hb hby at_101) rfl rfl q9_) ?_
      show Go p e below s Z [] _ _ _ (T318.setTop (mkF m 102 #[.val (.int p0), .val (.int p1), .val (.int p2), .val (.int p3), .val (.int en), .val (.int al), .val (.int cr), .val (.ref b0), .val (.ref st), .val (.ref aA), .unset, .unset, .unset] [(.ref li), (.ref li)]))
      refine W320.callI (y := (⟨"java/util/ArrayList", "<init>", "()V"⟩ : MethodName)) rfl (wd7 hw) (wd8 hw) (wd6 hw) (wd9 hw) (by decide) (a := li) (c_alinit l Z a0 hw hEL h319 W320.old li dd A_li F_modCount_li F_elementData_li z_li F_size_li SD) (allS (List.mem_of_getElem? (i := 0) rfl) all0) (by decide) (by decide) (k' := 4) (n' := 11) rfl rfl (by decide) (by decide) (by rw [hml]; rfl) (argsL := []) (rest := [(.ref li)]) (lenOf pd_3 rfl) rfl rfl (Wt := 1) (Nat.le_of_eq rfl) (hb hby at_102) ?_
      intro v_ T322 h324 W323 hq_
      obtain ⟨rfl, K3, g1, g2, g3, g4⟩ := hq_
      show Go p e below s Z [] _ _ _ (T322.setTop (mkF m 105 #[.val (.int p0), .val (.int p1), .val (.int p2), .val (.int p3), .val (.int en), .val (.int al), .val (.int cr), .val (.ref b0), .val (.ref st), .val (.ref aA), .unset, .unset, .unset] [(.ref li)]))
      refine Go.by (fun t9_ q9_ => XS.astore W323.here W323.hx rfl (hb hby at_105) rfl rfl (l' := #[.val (.int p0), .val (.int p1), .val (.int p2), .val (.int p3), .val (.int en), .val (.int al), .val (.int cr), .val (.ref b0), .val (.ref st), .val (.ref aA), .val (.ref li), .unset, .unset]) rfl q9_) ?_
      show Go p e below s Z [] _ _ _ (T322.setTop (mkF m 107 #[.val (.int p0), .val (.int p1), .val (.int p2), .val (.int p3), .val (.int en), .val (.int al), .val (.int cr), .val (.ref b0), .val (.ref st), .val (.ref aA), .val (.ref li), .unset, .unset] []))
      refine Go.by (fun t9_ q9_ => XS.aload W323.here W323.hx rfl (hb hby at_107) rfl rfl q9_) ?_
      show Go p e below s Z [] _ _ _ (T322.setTop (mkF m 109 #[.val (.int p0), .val (.int p1), .val (.int p2), .val (.int p3), .val (.int en), .val (.int al), .val (.int cr), .val (.ref b0), .val (.ref st), .val (.ref aA), .val (.ref li), .unset, .unset] [(.ref li)]))
      refine Go.by (fun t9_ q9_ => XS.iloadN W323.here W323.hx rfl (hb hby at_109) rfl q9_) ?_
      show Go p e below s Z [] _ _ _ (T322.setTop (mkF m 110 #[.val (.int p0), .val (.int p1), .val (.int p2), .val (.int p3), .val (.int en), .val (.int al), .val (.int cr), .val (.ref b0), .val (.ref st), .val (.ref aA), .val (.ref li), .unset, .unset] [(.int p3), (.ref li)]))
      refine Go.by (fun t9_ q9_ => XS.sipush W323.here W323.hx rfl (hb hby at_110) q9_) ?_
      show Go p e below s Z [] _ _ _ (T322.setTop (mkF m 113 #[.val (.int p0), .val (.int p1), .val (.int p2), .val (.int p3), .val (.int en), .val (.int al), .val (.int cr), .val (.ref b0), .val (.ref st), .val (.ref aA), .val (.ref li), .unset, .unset] [(.int (255 : Int32)), (.int p3), (.ref li)]))
      refine Go.by (fun t9_ q9_ => XS.iand W323.here W323.hx rfl (hb hby at_113) rfl q9_) ?_
      show Go p e below s Z [] _ _ _ (T322.setTop (mkF m 114 #[.val (.int p0), .val (.int p1), .val (.int p2), .val (.int p3), .val (.int en), .val (.int al), .val (.int cr), .val (.ref b0), .val (.ref st), .val (.ref aA), .val (.ref li), .unset, .unset] [(.int (p3 &&& (255 : Int32))), (.ref li)]))
      refine Go.by (fun t9_ q9_ => XS.i2c W323.here W323.hx rfl (hb hby at_114) rfl q9_) ?_
      show Go p e below s Z [] _ _ _ (T322.setTop (mkF m 115 #[.val (.int p0), .val (.int p1), .val (.int p2), .val (.int p3), .val (.int en), .val (.int al), .val (.int cr), .val (.ref b0), .val (.ref st), .val (.ref aA), .val (.ref li), .unset, .unset] [(.int ((p3 &&& (255 : Int32)).toUInt32.toUInt16.toUInt32.toInt32)), (.ref li)]))
      refine W323.callS (y := (⟨"java/lang/String", "valueOf", "(C)Ljava/lang/String;"⟩ : MethodName)) (wd30 hw) (wd31 hw) (wd32 hw) (wd33 hw) (by decide) (c_valueof l Z a0 hw hEL h324 W323.old G1 _ SG1 hG (k_mask _).1 (k_mask _).2) all0 (by decide) (by decide) (k' := 6) (n' := 16) rfl rfl (by decide) (by decide) (by rw [hml]; rfl) (argsL := [(.int ((p3 &&& (255 : Int32)).toUInt32.toUInt16.toUInt32.toInt32))]) (rest := [(.ref li)]) (lenOf pd_9 rfl) rfl rfl (Wt := 1) (Nat.le_of_eq rfl) (hb hby at_115) ?_
      intro v_ T325 h327 W326 hq_
      obtain ⟨s1, rfl, X2, S_s1⟩ := hq_
      show Go p e below s Z [] _ _ _ (T325.setTop (mkF m 118 #[.val (.int p0), .val (.int p1), .val (.int p2), .val (.int p3), .val (.int en), .val (.int al), .val (.int cr), .val (.ref b0), .val (.ref st), .val (.ref aA), .val (.ref li), .unset, .unset] [(.ref s1), (.ref li)]))
      refine W326.callV (y := (⟨"java/util/ArrayList", "add", "(Ljava/lang/Object;)Z"⟩ : MethodName)) (z := (⟨"java/util/ArrayList", "add", "(Ljava/lang/Object;)Z"⟩ : MethodName)) (wd54 hw) (wd55 hw) (nf_sel rfl (wd57 hw)) (wd57 hw) (wd56 hw) (wd6 hw) (wd58 hw) (by decide) (g1.ext X2) (a := li) (c_add1 l Z a0 hw hEL h327 W326.old li dd kd 0 s1 (g1.ext X2) (g2.ext X2) (g3.ext X2) (g4.ext X2) z_li SD DA S_s1.exa) (allS (List.mem_of_getElem? (i := 0) rfl) all0) (by decide) (by decide) (k' := 7) (n' := 26) rfl rfl (by decide) (by decide) (by rw [hml]; rfl) (argsL := [(.ref s1)]) (rest := []) (lenOf pd_10 rfl) rfl rfl (Wt := 0) (Nat.le_of_eq rfl) (hb hby at_118) ?_
      intro v_ T328 h330 W329 hq_
      obtain ⟨rfl, K5⟩ := hq_
      show Go p e below s Z [] _ _ _ (T328.setTop (mkF m 121 #[.val (.int p0), .val (.int p1), .val (.int p2), .val (.int p3), .val (.int en), .val (.int al), .val (.int cr), .val (.ref b0), .val (.ref st), .val (.ref aA), .val (.ref li), .unset, .unset] [(.int (1 : Int32))]))
      refine Go.by (fun t9_ q9_ => XS.pop W329.here W329.hx rfl (hb hby at_121) rfl rfl q9_) ?_
      show Go p e below s Z [] _ _ _ (T328.setTop (mkF m 122 #[.val (.int p0), .val (.int p1), .val (.int p2), .val (.int p3), .val (.int en), .val (.int al), .val (.int cr), .val (.ref b0), .val (.ref st), .val (.ref aA), .val (.ref li), .unset, .unset] []))
      refine W329.new (wd85 hw) (wd86 hw) (wd87 hw) (hb hby at_122) (k' := 8) (n' := 31) rfl rfl (by decide) (by decide) ?_
      intro T331 h332 us W333 E334 g_us z_us A_us D_us
      have F_username_us : Fld Z h332 us "com/example/secondkey/secondkey/config/Config$User" "username" "Ljava/lang/String;" .null := D_us (Or.inr (wd101 hw)) (ty := (.object "java/lang/String")) (by decide)
      have F_password_us : Fld Z h332 us "com/example/secondkey/secondkey/config/Config$User" "password" "Ljava/lang/String;" .null := D_us (Or.inr (wd103 hw)) (ty := (.object "java/lang/String")) (by decide)
      have F_roles_us : Fld Z h332 us "com/example/secondkey/secondkey/config/Config$User" "roles" "Ljava/util/List;" .null := D_us (Or.inr (wd105 hw)) (ty := (.object "java/util/List")) (by decide)
      have F_totpSecret_us : Fld Z h332 us "com/example/secondkey/secondkey/config/Config$User" "totpSecret" "Ljava/lang/String;" .null := D_us (Or.inr (wd107 hw)) (ty := (.object "java/lang/String")) (by decide)
      have F_secondFactor_us : Fld Z h332 us "com/example/secondkey/secondkey/config/Config$User" "secondFactor" "Lcom/example/secondkey/secondkey/config/Config$SecondFactor;" .null := D_us (Or.inr (wd109 hw)) (ty := (.object "com/example/secondkey/secondkey/config/Config$SecondFactor")) (by decide)
      show Go p e below s Z [] _ _ _ (T331.setTop (mkF m 125 #[.val (.int p0), .val (.int p1), .val (.int p2), .val (.int p3), .val (.int en), .val (.int al), .val (.int cr), .val (.ref b0), .val (.ref st), .val (.ref aA), .val (.ref li), .unset, .unset] [(.ref us)]))
      refine Go.by (fun t9_ q9_ => XS.dup W333.here W333.hx rfl (hb hby at_125) rfl rfl q9_) ?_
      show Go p e below s Z [] _ _ _ (T331.setTop (mkF m 126 #[.val (.int p0), .val (.int p1), .val (.int p2), .val (.int p3), .val (.int en), .val (.int al), .val (.int cr), .val (.ref b0), .val (.ref st), .val (.ref aA), .val (.ref li), .unset, .unset] [(.ref us), (.ref us)]))
      refine Go.by (fun t9_ q9_ => XS.iloadN W333.here W333.hx rfl (hb hby at_126) rfl q9_) ?_
      show Go p e below s Z [] _ _ _ (T331.setTop (mkF m 127 #[.val (.int p0), .val (.int p1), .val (.int p2), .val (.int p3), .val (.int en), .val (.int al), .val (.int cr), .val (.ref b0), .val (.ref st), .val (.ref aA), .val (.ref li), .unset, .unset] [(.int p3), (.ref us), (.ref us)]))
      refine Go.by (fun t9_ q9_ => XS.bipush W333.here W333.hx rfl (hb hby at_127) q9_) ?_
      show Go p e below s Z [] _ _ _ (T331.setTop (mkF m 129 #[.val (.int p0), .val (.int p1), .val (.int p2), .val (.int p3), .val (.int en), .val (.int al), .val (.int cr), .val (.ref b0), .val (.ref st), .val (.ref aA), .val (.ref li), .unset, .unset] [(.int (8 : Int32)), (.int p3), (.ref us), (.ref us)]))
      refine Go.by (fun t9_ q9_ => XS.iushr W333.here W333.hx rfl (hb hby at_129) rfl q9_) ?_
      show Go p e below s Z [] _ _ _ (T331.setTop (mkF m 130 #[.val (.int p0), .val (.int p1), .val (.int p2), .val (.int p3), .val (.int en), .val (.int al), .val (.int cr), .val (.ref b0), .val (.ref st), .val (.ref aA), .val (.ref li), .unset, .unset] [(.int ((p3.toUInt32 >>> ((8 : Int32) &&& 31).toUInt32).toInt32)), (.ref us), (.ref us)]))
      refine Go.by (fun t9_ q9_ => XS.sipush W333.here W333.hx rfl (hb hby at_130) q9_) ?_
      show Go p e below s Z [] _ _ _ (T331.setTop (mkF m 133 #[.val (.int p0), .val (.int p1), .val (.int p2), .val (.int p3), .val (.int en), .val (.int al), .val (.int cr), .val (.ref b0), .val (.ref st), .val (.ref aA), .val (.ref li), .unset, .unset] [(.int (255 : Int32)), (.int ((p3.toUInt32 >>> ((8 : Int32) &&& 31).toUInt32).toInt32)), (.ref us), (.ref us)]))
      refine Go.by (fun t9_ q9_ => XS.iand W333.here W333.hx rfl (hb hby at_133) rfl q9_) ?_
      show Go p e below s Z [] _ _ _ (T331.setTop (mkF m 134 #[.val (.int p0), .val (.int p1), .val (.int p2), .val (.int p3), .val (.int en), .val (.int al), .val (.int cr), .val (.ref b0), .val (.ref st), .val (.ref aA), .val (.ref li), .unset, .unset] [(.int (((p3.toUInt32 >>> ((8 : Int32) &&& 31).toUInt32).toInt32) &&& (255 : Int32))), (.ref us), (.ref us)]))
      refine Go.by (fun t9_ q9_ => XS.i2c W333.here W333.hx rfl (hb hby at_134) rfl q9_) ?_
      show Go p e below s Z [] _ _ _ (T331.setTop (mkF m 135 #[.val (.int p0), .val (.int p1), .val (.int p2), .val (.int p3), .val (.int en), .val (.int al), .val (.int cr), .val (.ref b0), .val (.ref st), .val (.ref aA), .val (.ref li), .unset, .unset] [(.int ((((p3.toUInt32 >>> ((8 : Int32) &&& 31).toUInt32).toInt32) &&& (255 : Int32)).toUInt32.toUInt16.toUInt32.toInt32)), (.ref us), (.ref us)]))
      refine W333.callS (y := (⟨"java/lang/String", "valueOf", "(C)Ljava/lang/String;"⟩ : MethodName)) (wd30 hw) (wd31 hw) (wd32 hw) (wd33 hw) (by decide) (c_valueof l Z a0 hw hEL h332 W333.old G1 _ SG1 hG (k_mask _).1 (k_mask _).2) all0 (by decide) (by decide) (k' := 10) (n' := 36) rfl rfl (by decide) (by decide) (by rw [hml]; rfl) (argsL := [(.int ((((p3.toUInt32 >>> ((8 : Int32) &&& 31).toUInt32).toInt32) &&& (255 : Int32)).toUInt32.toUInt16.toUInt32.toInt32))]) (rest := [(.ref us), (.ref us)]) (lenOf pd_9 rfl) rfl rfl (Wt := 2) (Nat.le_of_eq rfl) (hb hby at_135) ?_
      intro v_ T335 h337 W336 hq_
      obtain ⟨s2, rfl, X6, S_s2⟩ := hq_
      show Go p e below s Z [] _ _ _ (T335.setTop (mkF m 138 #[.val (.int p0), .val (.int p1), .val (.int p2), .val (.int p3), .val (.int en), .val (.int al), .val (.int cr), .val (.ref b0), .val (.ref st), .val (.ref aA), .val (.ref li), .unset, .unset] [(.ref s2), (.ref us), (.ref us)]))
      refine W336.ldcO (wd88 hw) (k_sa hw) (hb hby at_138) (q := 8) (by decide +kernel) (by decide) (k' := 12) (n' := 48) rfl rfl (by decide) (by decide) ?_
      intro T338 h339 pw W340 E341
      show Go p e below s Z [] _ _ _ (T338.setTop (mkF m 140 #[.val (.int p0), .val (.int p1), .val (.int p2), .val (.int p3), .val (.int en), .val (.int al), .val (.int cr), .val (.ref b0), .val (.ref st), .val (.ref aA), .val (.ref li), .unset, .unset] [(.ref pw), (.ref s2), (.ref us), (.ref us)]))
      refine Go.by (fun t9_ q9_ => XS.aload W340.here W340.hx rfl (hb hby at_140) rfl rfl q9_) ?_
      show Go p e below s Z [] _ _ _ (T338.setTop (mkF m 142 #[.val (.int p0), .val (.int p1), .val (.int p2), .val (.int p3), .val (.int en), .val (.int al), .val (.int cr), .val (.ref b0), .val (.ref st), .val (.ref aA), .val (.ref li), .unset, .unset] [(.ref li), (.ref pw), (.ref s2), (.ref us), (.ref us)]))
      refine Go.by (fun t9_ q9_ => XS.aload W340.here W340.hx rfl (hb hby at_142) rfl rfl q9_) ?_
      show Go p e below s Z [] _ _ _ (T338.setTop (mkF m 144 #[.val (.int p0), .val (.int p1), .val (.int p2), .val (.int p3), .val (.int en), .val (.int al), .val (.int cr), .val (.ref b0), .val (.ref st), .val (.ref aA), .val (.ref li), .unset, .unset] [(.ref st), (.ref li), (.ref pw), (.ref s2), (.ref us), (.ref us)]))
      refine Go.by (fun t9_ q9_ => XS.aload W340.here W340.hx rfl (hb hby at_144) rfl rfl q9_) ?_
      show Go p e below s Z [] _ _ _ (T338.setTop (mkF m 146 #[.val (.int p0), .val (.int p1), .val (.int p2), .val (.int p3), .val (.int en), .val (.int al), .val (.int cr), .val (.ref b0), .val (.ref st), .val (.ref aA), .val (.ref li), .unset, .unset] [(.ref aA), (.ref st), (.ref li), (.ref pw), (.ref s2), (.ref us), (.ref us)]))
      have X342 : Ext h332 h339 := (Ext.trans' X6 E341)
      refine W340.callI (y := (⟨"com/example/secondkey/secondkey/config/Config$User", "<init>", "(Ljava/lang/String;Ljava/lang/String;Ljava/util/List;Ljava/lang/String;Lcom/example/secondkey/secondkey/config/Config$SecondFactor;)V"⟩ : MethodName)) rfl (wd91 hw) (wd92 hw) (wd87 hw) (wd93 hw) (by decide) (a := us) (c_user l Z a0 hw hEL h339 W340.old us s2 pw li aA (.ref st) rfl (A_us.ext X342) (F_username_us.ext X342) (F_password_us.ext X342) (F_roles_us.ext X342) (F_totpSecret_us.ext X342) (F_secondFactor_us.ext X342) z_us) (allS (List.mem_of_getElem? (i := 0) rfl) all0) (by decide) (by decide) (k' := 12) (n' := 48) rfl rfl (by decide) (by decide) (by rw [hml]; rfl) (argsL := [(.ref s2), (.ref pw), (.ref li), (.ref st), (.ref aA)]) (rest := [(.ref us)]) (lenOf pd_11 rfl) rfl rfl (Wt := 1) (Nat.le_of_eq rfl) (hb hby at_146) ?_
      intro v_ T343 h345 W344 hq_
      obtain ⟨rfl, K4, E4, F4, F5⟩ := hq_
      show Go p e below s Z [] _ _ _ (T343.setTop (mkF m 149 #[.val (.int p0), .val (.int p1), .val (.int p2), .val (.int p3), .val (.int en), .val (.int al), .val (.int cr), .val (.ref b0), .val (.ref st), .val (.ref aA), .val (.ref li), .unset, .unset] [(.ref us)]))
      refine Go.by (fun t9_ q9_ => XS.astore W344.here W344.hx rfl (hb hby at_149) rfl rfl (l' := #[.val (.int p0), .val (.int p1), .val (.int p2), .val (.int p3), .val (.int en), .val (.int al), .val (.int cr), .val (.ref b0), .val (.ref st), .val (.ref aA), .val (.ref li), .val (.ref us), .unset]) rfl q9_) ?_
      show Go p e below s Z [] _ _ _ (T343.setTop (mkF m 151 #[.val (.int p0), .val (.int p1), .val (.int p2), .val (.int p3), .val (.int en), .val (.int al), .val (.int cr), .val (.ref b0), .val (.ref st), .val (.ref aA), .val (.ref li), .val (.ref us), .unset] []))
      refine Go.by (fun t9_ q9_ => XS.iload W344.here W344.hx rfl (hb hby at_151) rfl q9_) ?_
      show Go p e below s Z [] _ _ _ (T343.setTop (mkF m 153 #[.val (.int p0), .val (.int p1), .val (.int p2), .val (.int p3), .val (.int en), .val (.int al), .val (.int cr), .val (.ref b0), .val (.ref st), .val (.ref aA), .val (.ref li), .val (.ref us), .unset] [(.int en)]))
      obtain ⟨ex, h_ex⟩ : ∃ z : Int32, z = (if en = (0 : Int32) then (0 : Int32) else (if al = (0 : Int32) then cr else (1 : Int32))) := ⟨_, rfl⟩
      have mg_ex : ∀ t, Steps p.tables e below (T343.setTop (mkF m 177 #[.val (.int p0), .val (.int p1), .val (.int p2), .val (.int p3), .val (.int en), .val (.int al), .val (.int cr), .val (.ref b0), .val (.ref st), .val (.ref aA), .val (.ref li), .val (.ref us), .val (.int ex)] [])) t → Steps p.tables e below (T343.setTop (mkF m 153 #[.val (.int p0), .val (.int p1), .val (.int p2), .val (.int p3), .val (.int en), .val (.int al), .val (.int cr), .val (.ref b0), .val (.ref st), .val (.ref aA), .val (.ref li), .val (.ref us), .unset] [(.int en)])) t := by
        intro t q
        by_cases hm346 : en = (0 : Int32)
        · refine XS.ifNo W344.here W344.hx rfl (hb hby at_153) rfl ((if0 _ _).trans (teq hm346).2) ?_
          show Steps p.tables e below (T343.setTop (mkF m 156 #[.val (.int p0), .val (.int p1), .val (.int p2), .val (.int p3), .val (.int en), .val (.int al), .val (.int cr), .val (.ref b0), .val (.ref st), .val (.ref aA), .val (.ref li), .val (.ref us), .unset] [])) _
          refine XS.iconst W344.here W344.hx rfl (hb hby at_156) ?_
          show Steps p.tables e below (T343.setTop (mkF m 157 #[.val (.int p0), .val (.int p1), .val (.int p2), .val (.int p3), .val (.int en), .val (.int al), .val (.int cr), .val (.ref b0), .val (.ref st), .val (.ref aA), .val (.ref li), .val (.ref us), .unset] [(.int (0 : Int32))])) _
          refine XS.istore W344.here W344.hx rfl (hb hby at_157) rfl (l' := #[.val (.int p0), .val (.int p1), .val (.int p2), .val (.int p3), .val (.int en), .val (.int al), .val (.int cr), .val (.ref b0), .val (.ref st), .val (.ref aA), .val (.ref li), .val (.ref us), .val (.int (0 : Int32))]) rfl ?_
          show Steps p.tables e below (T343.setTop (mkF m 159 #[.val (.int p0), .val (.int p1), .val (.int p2), .val (.int p3), .val (.int en), .val (.int al), .val (.int cr), .val (.ref b0), .val (.ref st), .val (.ref aA), .val (.ref li), .val (.ref us), .val (.int (0 : Int32))] [])) _
          refine XS.goto W344.here W344.hx rfl (pc0 := 159) (pc' := 177) rfl (hb hby at_159) (by decide) (by decide) ?_
          show Steps p.tables e below (T343.setTop (mkF m 177 #[.val (.int p0), .val (.int p1), .val (.int p2), .val (.int p3), .val (.int en), .val (.int al), .val (.int cr), .val (.ref b0), .val (.ref st), .val (.ref aA), .val (.ref li), .val (.ref us), .val (.int (0 : Int32))] [])) _
          rw [if_pos hm346] at h_ex
          subst h_ex
          exact q
        · refine XS.ifYes W344.here W344.hx rfl (pc0 := 153) (pc' := 162) rfl (hb hby at_153) rfl ((if0 _ _).trans (feq hm346).2) (by decide) (by decide) ?_
          show Steps p.tables e below (T343.setTop (mkF m 162 #[.val (.int p0), .val (.int p1), .val (.int p2), .val (.int p3), .val (.int en), .val (.int al), .val (.int cr), .val (.ref b0), .val (.ref st), .val (.ref aA), .val (.ref li), .val (.ref us), .unset] [])) _
          refine XS.iload W344.here W344.hx rfl (hb hby at_162) rfl ?_
          show Steps p.tables e below (T343.setTop (mkF m 164 #[.val (.int p0), .val (.int p1), .val (.int p2), .val (.int p3), .val (.int en), .val (.int al), .val (.int cr), .val (.ref b0), .val (.ref st), .val (.ref aA), .val (.ref li), .val (.ref us), .unset] [(.int al)])) _
          by_cases hm347 : al = (0 : Int32)
          · refine XS.ifYes W344.here W344.hx rfl (pc0 := 164) (pc' := 173) rfl (hb hby at_164) rfl ((if0 _ _).trans (teq hm347).1) (by decide) (by decide) ?_
            show Steps p.tables e below (T343.setTop (mkF m 173 #[.val (.int p0), .val (.int p1), .val (.int p2), .val (.int p3), .val (.int en), .val (.int al), .val (.int cr), .val (.ref b0), .val (.ref st), .val (.ref aA), .val (.ref li), .val (.ref us), .unset] [])) _
            refine XS.iload W344.here W344.hx rfl (hb hby at_173) rfl ?_
            show Steps p.tables e below (T343.setTop (mkF m 175 #[.val (.int p0), .val (.int p1), .val (.int p2), .val (.int p3), .val (.int en), .val (.int al), .val (.int cr), .val (.ref b0), .val (.ref st), .val (.ref aA), .val (.ref li), .val (.ref us), .unset] [(.int cr)])) _
            refine XS.istore W344.here W344.hx rfl (hb hby at_175) rfl (l' := #[.val (.int p0), .val (.int p1), .val (.int p2), .val (.int p3), .val (.int en), .val (.int al), .val (.int cr), .val (.ref b0), .val (.ref st), .val (.ref aA), .val (.ref li), .val (.ref us), .val (.int cr)]) rfl ?_
            show Steps p.tables e below (T343.setTop (mkF m 177 #[.val (.int p0), .val (.int p1), .val (.int p2), .val (.int p3), .val (.int en), .val (.int al), .val (.int cr), .val (.ref b0), .val (.ref st), .val (.ref aA), .val (.ref li), .val (.ref us), .val (.int cr)] [])) _
            rw [if_neg hm346, if_pos hm347] at h_ex
            subst h_ex
            exact q
          · refine XS.ifNo W344.here W344.hx rfl (hb hby at_164) rfl ((if0 _ _).trans (feq hm347).1) ?_
            show Steps p.tables e below (T343.setTop (mkF m 167 #[.val (.int p0), .val (.int p1), .val (.int p2), .val (.int p3), .val (.int en), .val (.int al), .val (.int cr), .val (.ref b0), .val (.ref st), .val (.ref aA), .val (.ref li), .val (.ref us), .unset] [])) _
            refine XS.iconst W344.here W344.hx rfl (hb hby at_167) ?_
            show Steps p.tables e below (T343.setTop (mkF m 168 #[.val (.int p0), .val (.int p1), .val (.int p2), .val (.int p3), .val (.int en), .val (.int al), .val (.int cr), .val (.ref b0), .val (.ref st), .val (.ref aA), .val (.ref li), .val (.ref us), .unset] [(.int (1 : Int32))])) _
            refine XS.istore W344.here W344.hx rfl (hb hby at_168) rfl (l' := #[.val (.int p0), .val (.int p1), .val (.int p2), .val (.int p3), .val (.int en), .val (.int al), .val (.int cr), .val (.ref b0), .val (.ref st), .val (.ref aA), .val (.ref li), .val (.ref us), .val (.int (1 : Int32))]) rfl ?_
            show Steps p.tables e below (T343.setTop (mkF m 170 #[.val (.int p0), .val (.int p1), .val (.int p2), .val (.int p3), .val (.int en), .val (.int al), .val (.int cr), .val (.ref b0), .val (.ref st), .val (.ref aA), .val (.ref li), .val (.ref us), .val (.int (1 : Int32))] [])) _
            refine XS.goto W344.here W344.hx rfl (pc0 := 170) (pc' := 177) rfl (hb hby at_170) (by decide) (by decide) ?_
            show Steps p.tables e below (T343.setTop (mkF m 177 #[.val (.int p0), .val (.int p1), .val (.int p2), .val (.int p3), .val (.int en), .val (.int al), .val (.int cr), .val (.ref b0), .val (.ref st), .val (.ref aA), .val (.ref li), .val (.ref us), .val (.int (1 : Int32))] [])) _
            rw [if_neg hm346, if_neg hm347] at h_ex
            subst h_ex
            exact q
      refine Go.by mg_ex ?_
      show Go p e below s Z [] _ _ _ (T343.setTop (mkF m 177 #[.val (.int p0), .val (.int p1), .val (.int p2), .val (.int p3), .val (.int en), .val (.int al), .val (.int cr), .val (.ref b0), .val (.ref st), .val (.ref aA), .val (.ref li), .val (.ref us), .val (.int ex)] []))
      refine Go.by (fun t9_ q9_ => XS.aload W344.here W344.hx rfl (hb hby at_177) rfl rfl q9_) ?_
      show Go p e below s Z [] _ _ _ (T343.setTop (mkF m 179 #[.val (.int p0), .val (.int p1), .val (.int p2), .val (.int p3), .val (.int en), .val (.int al), .val (.int cr), .val (.ref b0), .val (.ref st), .val (.ref aA), .val (.ref li), .val (.ref us), .val (.int ex)] [(.ref us)]))
      refine Go.by (fun t9_ q9_ => XS.iload W344.here W344.hx rfl (hb hby at_179) rfl q9_) ?_
      show Go p e below s Z [] _ _ _ (T343.setTop (mkF m 181 #[.val (.int p0), .val (.int p1), .val (.int p2), .val (.int p3), .val (.int en), .val (.int al), .val (.int cr), .val (.ref b0), .val (.ref st), .val (.ref aA), .val (.ref li), .val (.ref us), .val (.int ex)] [(.int cr), (.ref us)]))
      refine W344.callVp (y := (⟨"com/example/secondkey/secondkey/config/Config$User", "owesSecondFactor", "(Z)Z"⟩ : MethodName)) (z := (⟨"com/example/secondkey/secondkey/config/Config$User", "owesSecondFactor", "(Z)Z"⟩ : MethodName)) (wd110 hw) (wd111 hw) (nf_sel rfl (wd113 hw)) (wd113 hw) (wd112 hw) (wd87 hw) (wd114 hw) (by decide) E4 (a := us) (c_owes l Z a0 hw hEL h345 W344.old us aA aA (.ref st) rfl cr E4 F4 F5 SA) all0 (by decide) (by decide) (k' := 12) (n' := 48) rfl rfl (by decide) (by decide) (by rw [hml]; rfl) (argsL := [(.int cr)]) (rest := []) (lenOf pd_12 rfl) rfl rfl (Wt := 0) (Nat.le_of_eq rfl) (hb hby at_181) ?_
      intro T348 W349
      show Go p e below s Z [] _ _ _ (T348.setTop (mkF m 184 #[.val (.int p0), .val (.int p1), .val (.int p2), .val (.int p3), .val (.int en), .val (.int al), .val (.int cr), .val (.ref b0), .val (.ref st), .val (.ref aA), .val (.ref li), .val (.ref us), .val (.int ex)] [(.int (if (Value.ref st) = .null then (0 : Int32) else if aA = aA then 1 else if cr = 0 then 0 else 1))]))
      refine Go.by (fun t9_ q9_ => XS.iload W349.here W349.hx rfl (hb hby at_184) rfl q9_) ?_
      show Go p e below s Z [] _ _ _ (T348.setTop (mkF m 186 #[.val (.int p0), .val (.int p1), .val (.int p2), .val (.int p3), .val (.int en), .val (.int al), .val (.int cr), .val (.ref b0), .val (.ref st), .val (.ref aA), .val (.ref li), .val (.ref us), .val (.int ex)] [(.int ex), (.int (if (Value.ref st) = .null then (0 : Int32) else if aA = aA then 1 else if cr = 0 then 0 else 1))]))
      have he : (if (Value.ref st) = .null then (0 : Int32) else if aA = aA then 1 else if cr = 0 then 0 else 1) = ex := by rcases hcr01 with rfl | rfl <;> simp_all
      refine Go.by (fun t9_ q9_ => XS.icmpNo W349.here W349.hx rfl (hb hby at_186) rfl (teq he).2 q9_) ?_
      show Go p e below s Z [] _ _ _ (T348.setTop (mkF m 189 #[.val (.int p0), .val (.int p1), .val (.int p2), .val (.int p3), .val (.int en), .val (.int al), .val (.int cr), .val (.ref b0), .val (.ref st), .val (.ref aA), .val (.ref li), .val (.ref us), .val (.int ex)] []))
      refine Go.by (fun t9_ q9_ => XS.iconst W349.here W349.hx rfl (hb hby at_189) q9_) ?_
      show Go p e below s Z [] _ _ _ (T348.setTop (mkF m 190 #[.val (.int p0), .val (.int p1), .val (.int p2), .val (.int p3), .val (.int en), .val (.int al), .val (.int cr), .val (.ref b0), .val (.ref st), .val (.ref aA), .val (.ref li), .val (.ref us), .val (.int ex)] [(.int (1 : Int32))]))
      refine Go.by (fun t9_ q9_ => XS.goto W349.here W349.hx rfl (pc0 := 190) (pc' := 194) rfl (hb hby at_190) (by decide) (by decide) q9_) ?_
      show Go p e below s Z [] _ _ _ (T348.setTop (mkF m 194 #[.val (.int p0), .val (.int p1), .val (.int p2), .val (.int p3), .val (.int en), .val (.int al), .val (.int cr), .val (.ref b0), .val (.ref st), .val (.ref aA), .val (.ref li), .val (.ref us), .val (.int ex)] [(.int (1 : Int32))]))
      exact W349.retN (z' := (1 : Int32)) (by decide) (by decide) hret (by simp) (hb hby at_194) rfl rfl
theorem arv_empty {Z : State} {args : Array Value} {t : Term} {a : Addr} {c : Cell} {ty : FieldType} {dv : Value} (ev : t.eval args Z none [] Z = some (.ref a)) (A : RoadKit.Arr Z Z.heap a c ty) (hl : (Term.length t).eval args Z none [] Z = some (.int 0)) : Arv Z Z.heap a c.cls ty 0 [] dv := by
  have h1 := A.fin (Vm.Alike.refl _)
  have h31 := SBG.length_lt ev h1 hl
  have e : (Term.length t).eval args Z none [] Z = some (.int (Int32.ofNat c.slots.size)) := by simp [Term.eval, ev, h1, h31]
  have h2 : Int32.ofNat c.slots.size = 0 := by simpa using Option.some.inj (e.symm.trans hl)
  have hsz : c.slots.size = 0 := by
    have := congrArg Int32.toInt h2
    rw [Int32.toInt_ofNat_small h31] at this
    have e0 : (0 : Int32).toInt = 0 := rfl
    omega
  exact ⟨c, A, rfl, by rw [hsz]; rfl, by decide, fun i hi => by omega, fun i hi => by omega⟩
set_option maxRecDepth 65536 in
set_option maxHeartbeats 40000000 in
theorem comes_1 {Post : Tables → Env → Array Value → State → Outcome → State → Prop} (hpost : ∀ tb e args s v u, (limb_1_1.after args s (.returned v) u = true ∧ limb_1_2.after args s (.returned v) u = true ∧ True) → FramedW s (.returned v) u (Jvm.fieldLocs frame_1_writes args s ++ Jvm.arrayLocs frame_1_arrays args s ++ Jvm.staticLocs frame_1_statics s) 32 1216 → Post tb e args s (.returned v) u) :
    ArmFor flags0 classFile x code maxLocals ret World_1 tables_1 room_1 Calls_1 rest_1 Pre_1 Post := by
  intro l hfl _ _ p e ha hc hk s m args below hf hA hF happ hP
  obtain ⟨hcalls, hrest, hpre⟩ := hP
  obtain ⟨-, -, -, hnamed, -, -, -, hat⟩ := (Spec.applies_iff hf).mp happ
  obtain ⟨hg, hn⟩ := and_e (Cond.before_iff.mp (show (Jvm.Cond.and given_1 narrow_1).before args s = true from hpre))
  obtain ⟨h1, hg0⟩ := and_e hg
  obtain ⟨ga0, hg1⟩ := and_e hg0
  obtain ⟨ga1, hg2⟩ := and_e hg1
  obtain ⟨ga2, hg3⟩ := and_e hg2
  have ga3 := hg3
  obtain ⟨w0, w1, w2, w3, rfl⟩ : ∃ w0 w1 w2 w3 : Value, args = #[w0, w1, w2, w3] := by
    have hs : args.size = 4 := by simpa [Cond.value, given_1] using h1
    obtain ⟨L⟩ := args
    match L, hs with
    | [w0, w1, w2, w3], _ => exact ⟨w0, w1, w2, w3, rfl⟩
  have hw := fun d (hd : d ∈ tables_1) => atoms_spec (ws := Jvm.Cond.code x code maxLocals ret :: tables_1) hat d (List.mem_cons_of_mem _ hd)
  obtain ⟨hsets, hown0⟩ := atoms_of _ (rest_1_c_eq ▸ (show rest_1_c.before _ s = true from hrest))
  have hfit : Fit s := fun {y c} hc i hi => by
    obtain ⟨ha, rfl⟩ := Array.getElem?_eq_some_iff.mp hc
    have q := List.all_eq_true.mp ((Array.all_eq_true_iff_forall_mem.mp hF) _ (Array.getElem_mem ha)) i (List.mem_range.mpr hi)
    simpa [Array.getElem?_eq_getElem hi] using q
  obtain ⟨p0, ea0⟩ := is_v ga0
  obtain rfl : w0 = (.int p0) := Option.some.inj ea0
  obtain ⟨p1, ea1⟩ := is_v ga1
  obtain rfl : w1 = (.int p1) := Option.some.inj ea1
  obtain ⟨p2, ea2⟩ := is_v ga2
  obtain rfl : w2 = (.int p2) := Option.some.inj ea2
  obtain ⟨p3, ea3⟩ := is_v ga3
  obtain rfl : w3 = (.int p3) := Option.some.inj ea3
  have hcw := hsets _ (List.mem_of_getElem? (i := 11) rfl)
  have nG := not_v (Cond.before_iff.mp hcw)
  obtain ⟨G1, eG⟩ := is_v (Cond.before_iff.mp (hsets _ (List.mem_of_getElem? (i := 10) rfl)))
  have SG1 : Sta s s.heap "java/lang/String" "COMPACT_STRINGS" "Z" (.int G1) := Sta.start eG (Or.inl (hsets _ (List.mem_of_getElem? (i := 9) rfl)))
  have hG : ¬ (G1 = (0 : Int32)) := gotF (Cond.eq_ints eG (Term.int_eval (0))) nG
  obtain ⟨nW, hn1⟩ := and_e hn
  obtain ⟨nA, hn2⟩ := and_e hn1
  obtain ⟨oW, oA⟩ := and_e hn2
  obtain ⟨aW, SW, -, eW⟩ := sta_exa nW (Or.inr ⟨(wd2 hw), (wd3 hw)⟩)
  obtain ⟨aA, SA, -, eA⟩ := sta_exa nA (Or.inr ⟨(wd2 hw), (wd138 hw)⟩)
  obtain ⟨dd, SD, -, eD⟩ := sta_exa (Cond.before_iff.mp (hsets _ (List.mem_of_getElem? (i := 7) rfl))) (Or.inr ⟨(wd6 hw), hsets _ (List.mem_of_getElem? (i := 2) rfl)⟩)
  have hneA : ¬ aW = aA := fun q => by
    subst q
    have q1 := Cond.eq_int (Cond.before_iff.mpr oW) rfl
    have q2 := Cond.eq_int (Cond.before_iff.mpr oA) rfl
    rw [fld_at eW] at q1
    rw [fld_at eA] at q2
    have q3 := q1.symm.trans q2
    cases q3
  obtain ⟨cd, DA0⟩ := Arr.start eD (Cond.before_iff.mp (hsets _ (List.mem_of_getElem? (i := 6) rfl)))
  have dl := Cond.eq_int (hsets _ (List.mem_of_getElem? (i := 8) rfl)) rfl
  have DA := arv_empty (dv := .null) eD DA0 dl
  have hEL : EW s #[(.int p0), (.int p1), (.int p2), (.int p3)] [] := EW.nil
  have hCH : CHv s [] s.vm s.heap := fun p hp => by cases hp
  obtain ⟨n, o, h1, h2, h3, _, L, rfl, ⟨rfl, N⟩, -, hq⟩ := c_law l s _ hw hEL s.heap (Ext.refl' _) p0 p1 p2 p3 G1 dd aW aA cd.cls SG1 hG SD DA SW SA hneA p e ha hc hk s m _ below hf ((Spec.applies_iff_loose hf).mp happ).1 ⟨rfl, State.Warmed39.refl s, rfl, hCH, all0⟩ trivial
  exact ⟨n, _, h1, h2, h3, hpost _ _ _ _ _ _ ⟨Cond.after_iff.mpr rfl, Cond.after_iff.mpr (eq_i res_at (Term.int_eval (1)) rfl), trivial⟩ ⟨hq.1, hq.2.1, hq.2.2.1, (hq.2.2.2.sift fun y hy => Or.inr (N y hy)).mono (by decide) (by decide)⟩⟩
theorem main_1_1 : Claimed_1_1 := comes_1 fun _ _ _ _ _ _ h hF => ⟨h.1, hF⟩
theorem main_1_2 : Claimed_1_2 := comes_1 fun _ _ _ _ _ _ h hF => ⟨h.2.1, hF⟩
end Jvm.Pilot.@@N@@
namespace Jvm.Pilot.@@N@@
open Jvm Jvm.ClassFile Sem Op Lib Jvm.Free Jvm.Stand Jvm.Pilot.@@N@@.Jvm.D
/-! MADE BY PROGRAM (witnessworld.py) out of the Statement's table words and the real class files: 33 classes; the members and pool entries that the words name. The judged class is class 1, her method 1. -/
namespace start1
open Jvm.ClassFile
def u (s : String) : CpInfo := .utf8 (stringToUtf16 s)
/-- a pool by its gaps: so many unusable entries, then the entry; so many at the end -/
def gap : Nat → List CpInfo → List CpInfo
  | 0, r => r
  | n + 1, r => .unusable :: gap n r
def poolList (es : List (Nat × CpInfo)) (last : Nat) : List CpInfo := es.foldr (fun e r => gap e.1 (e.2 :: r)) (gap last [])
def pool (es : List (Nat × CpInfo)) (last : Nat) : Array CpInfo := ⟨poolList es last⟩
def fileOf (pool : Array CpInfo) (this : Nat) (attrs : Array Attribute := #[]) (ms : Array MethodInfo := #[]) (fl : Nat := 33) (sup : Nat := 0) (ifs : Array Nat := #[]) (fds : Array FieldInfo := #[]) : ClassFile where
  minorVersion := 0
  majorVersion := 65
  constantPool := pool
  accessFlags := fl
  thisClass := this
  superClass := sup
  interfaces := ifs
  fields := fds
  methods := ms
  attributes := attrs
def plain (name : String) (sup : Option ClassId) : Class where
  name := name
  kind := .ordinary
  loader := none
  accessFlags := 33
  super := sup
  interfaces := #[]
  cf := none
  fields := #[]
  methods := #[]
  instanceTypes := #[]
  staticTypes := #[]
  resolved := #[]
  callSites := []
  init := .initialized
  statics := none
  mirror := none

def pool0 : Array CpInfo := pool [(5, u "<init>"), (0, u "()V"), (1, .class_ 10), (1, u "java/lang/Object")] 113

def k0c0 : Code := { maxStack := 0, maxLocals := 1, code := object_method_1_code, exceptionTable := #[], attributes := #[] }
def k0m0 : Method := { name := "<init>", desc := "()V", sig := { parameters := [], returnType := none }, accessFlags := 1, code := some k0c0 }
/-- java/lang/Object -/
def k0 : Class := { plain "java/lang/Object" none with
  accessFlags := 33
  interfaces := #[]
  cf := some (fileOf pool0 8 #[] #[{ accessFlags := 1, nameIndex := 5, descriptorIndex := 6, attributes := #[] }] 33 0 #[] #[])
  fields := #[]
  methods := #[k0m0]
  instanceTypes := #[]
  staticTypes := #[]
  resolved := Array.replicate 124 none
  statics := none }

def pool1 : Array CpInfo := pool [(2, .class_ 4), (0, .nameAndType 5 6), (0, u "java/lang/Object"), (0, u "<init>"), (0, u "()V"), (0, .class_ 8), (0, u "java/lang/String"), (0, .methodref 7 10), (0, .nameAndType 5 11), (0, u "([C)V"), (0, .fieldref 13 14), (0, .class_ 15), (0, .nameAndType 16 17), (0, u "com/example/secondkey/secondkey/config/Config$SecondFactor"), (0, u "ALWAYS"), (0, u "Lcom/example/secondkey/secondkey/config/Config$SecondFactor;"), (0, .fieldref 13 19), (0, .nameAndType 20 17), (0, u "WHEN_CLIENT_REQUIRES"), (0, .class_ 22), (0, u "java/util/ArrayList"), (0, .methodref 21 3), (0, .methodref 7 25), (0, .nameAndType 26 27), (0, u "valueOf"), (0, u "(C)Ljava/lang/String;"), (0, .methodref 21 29), (0, .nameAndType 30 31), (0, u "add"), (0, u "(Ljava/lang/Object;)Z"), (0, .class_ 33), (0, u "com/example/secondkey/secondkey/config/Config$User"), (0, .string 35), (0, u "pw"), (0, .methodref 32 37), (0, .nameAndType 5 38), (0, u "(Ljava/lang/String;Ljava/lang/String;Ljava/util/List;Ljava/lang/String;Lcom/example/secondkey/secondkey/config/Config$SecondFactor;)V"), (0, .methodref 32 40), (0, .nameAndType 41 42), (0, u "owesSecondFactor"), (0, u "(Z)Z"), (0, .class_ 44), (0, u "com/example/secondkey/secondkey/config/UserOwesSecondFactorPinLaw"), (2, u "law"), (0, u "(IIII)Z")] 10

def k1m0 : Method := { name := "<init>", desc := "()V", sig := { parameters := [], returnType := none }, accessFlags := 1, code := none }
def k1c1 : Code := { maxStack := 7, maxLocals := 13, code := code, exceptionTable := #[], attributes := #[] }
def k1m1 : Method := { name := "law", desc := "(IIII)Z", sig := { parameters := [.int, .int, .int, .int], returnType := some .boolean }, accessFlags := 9, code := some k1c1 }
/-- com/example/secondkey/secondkey/config/UserOwesSecondFactorPinLaw -/
def k1 : Class := { plain "com/example/secondkey/secondkey/config/UserOwesSecondFactorPinLaw" (some 0) with
  accessFlags := 49
  interfaces := #[]
  cf := some (fileOf pool1 43 #[] #[{ accessFlags := 1, nameIndex := 5, descriptorIndex := 6, attributes := #[] }, { accessFlags := 9, nameIndex := 47, descriptorIndex := 48, attributes := #[] }] 49 2 #[] #[])
  fields := #[]
  methods := #[k1m0, k1m1]
  instanceTypes := #[]
  staticTypes := #[]
  resolved := Array.replicate 59 none
  statics := none }

def pool2 : Array CpInfo := pool [(1, .class_ 2), (0, u "java/lang/constant/Constable"), (0, .class_ 4), (0, u "java/lang/Object")] 6

/-- java/lang/constant/Constable -/
def k2 : Class := { plain "java/lang/constant/Constable" (some 0) with
  accessFlags := 1537
  interfaces := #[]
  cf := some (fileOf pool2 1 #[] #[] 1537 3 #[] #[])
  fields := #[]
  methods := #[]
  instanceTypes := #[]
  staticTypes := #[]
  resolved := Array.replicate 11 none
  statics := none }

def pool3 : Array CpInfo := pool [(1, .class_ 2), (0, u "java/lang/Comparable"), (0, .class_ 4), (0, u "java/lang/Object")] 7

/-- java/lang/Comparable -/
def k3 : Class := { plain "java/lang/Comparable" (some 0) with
  accessFlags := 1537
  interfaces := #[]
  cf := some (fileOf pool3 1 #[] #[] 1537 3 #[] #[])
  fields := #[]
  methods := #[]
  instanceTypes := #[]
  staticTypes := #[]
  resolved := Array.replicate 12 none
  statics := none }

def pool4 : Array CpInfo := pool [(1, .class_ 2), (0, u "java/io/Serializable"), (0, .class_ 4), (0, u "java/lang/Object")] 2

/-- java/io/Serializable -/
def k4 : Class := { plain "java/io/Serializable" (some 0) with
  accessFlags := 1537
  interfaces := #[]
  cf := some (fileOf pool4 1 #[] #[] 1537 3 #[] #[])
  fields := #[]
  methods := #[]
  instanceTypes := #[]
  staticTypes := #[]
  resolved := Array.replicate 7 none
  statics := none }

def pool5 : Array CpInfo := pool [(2, .class_ 4), (1, u "java/lang/Enum"), (0, u "name"), (0, u "Ljava/lang/String;"), (2, u "ordinal"), (0, u "I"), (1, .class_ 14), (1, u "java/lang/Object"), (4, u "hash"), (86, .class_ 108), (1, u "java/lang/Enum$EnumDesc"), (2, .class_ 112), (0, u "java/lang/constant/Constable"), (0, .class_ 114), (0, u "java/lang/Comparable"), (0, .class_ 116), (0, u "java/io/Serializable")] 87

/-- java/lang/Enum -/
def k5 : Class := { plain "java/lang/Enum" (some 0) with
  accessFlags := 1057
  interfaces := #[2, 3, 4]
  cf := some (fileOf pool5 2 #[.nestMembers #[106]] #[] 1057 12 #[111, 113, 115] #[{ accessFlags := 18, nameIndex := 5, descriptorIndex := 6, attributes := #[] }, { accessFlags := 18, nameIndex := 9, descriptorIndex := 10, attributes := #[] }, { accessFlags := 2, nameIndex := 19, descriptorIndex := 10, attributes := #[] }])
  fields := #[{ name := "name", type := (.object "java/lang/String"), accessFlags := 18, slot := 0, constantValue := 0 }, { name := "ordinal", type := .int, accessFlags := 18, slot := 1, constantValue := 0 }, { name := "hash", type := .int, accessFlags := 2, slot := 2, constantValue := 0 }]
  methods := #[]
  instanceTypes := #[(.object "java/lang/String"), .int, .int]
  staticTypes := #[]
  resolved := Array.replicate 204 none
  statics := none }

def pool6 : Array CpInfo := pool [(1, .class_ 2), (0, u "com/example/secondkey/secondkey/config/Config$SecondFactor"), (2, u "ALWAYS"), (0, u "Lcom/example/secondkey/secondkey/config/Config$SecondFactor;"), (2, u "WHEN_CLIENT_REQUIRES"), (2, u "$VALUES"), (0, u "[Lcom/example/secondkey/secondkey/config/Config$SecondFactor;"), (6, .class_ 22), (1, u "java/lang/Enum"), (8, u "value"), (0, u "Ljava/lang/String;"), (59, .class_ 93), (0, u "com/example/secondkey/secondkey/config/Config")] 21

/-- com/example/secondkey/secondkey/config/Config$SecondFactor -/
def k6 : Class := { plain "com/example/secondkey/secondkey/config/Config$SecondFactor" (some 5) with
  accessFlags := 16433
  interfaces := #[]
  cf := some (fileOf pool6 1 #[.nestHost 92] #[] 16433 20 #[] #[{ accessFlags := 16409, nameIndex := 5, descriptorIndex := 6, attributes := #[] }, { accessFlags := 16409, nameIndex := 9, descriptorIndex := 6, attributes := #[] }, { accessFlags := 18, nameIndex := 31, descriptorIndex := 32, attributes := #[] }, { accessFlags := 4122, nameIndex := 12, descriptorIndex := 13, attributes := #[] }])
  fields := #[{ name := "ALWAYS", type := (.object "com/example/secondkey/secondkey/config/Config$SecondFactor"), accessFlags := 16409, slot := 0, constantValue := 0 }, { name := "WHEN_CLIENT_REQUIRES", type := (.object "com/example/secondkey/secondkey/config/Config$SecondFactor"), accessFlags := 16409, slot := 1, constantValue := 0 }, { name := "value", type := (.object "java/lang/String"), accessFlags := 18, slot := 3, constantValue := 0 }, { name := "$VALUES", type := (.array (.object "com/example/secondkey/secondkey/config/Config$SecondFactor")), accessFlags := 4122, slot := 2, constantValue := 0 }]
  methods := #[]
  instanceTypes := #[(.object "java/lang/String"), .int, .int, (.object "java/lang/String")]
  staticTypes := #[(.object "com/example/secondkey/secondkey/config/Config$SecondFactor"), (.object "com/example/secondkey/secondkey/config/Config$SecondFactor"), (.array (.object "com/example/secondkey/secondkey/config/Config$SecondFactor"))]
  resolved := Array.replicate 115 none
  statics := some 0 }

def pool7 : Array CpInfo := pool [(8, .class_ 10), (1, u "java/lang/Iterable"), (24, .class_ 36), (0, u "java/lang/Object")] 25

/-- java/lang/Iterable -/
def k7 : Class := { plain "java/lang/Iterable" (some 0) with
  accessFlags := 1537
  interfaces := #[]
  cf := some (fileOf pool7 8 #[] #[] 1537 35 #[] #[])
  fields := #[]
  methods := #[]
  instanceTypes := #[]
  staticTypes := #[]
  resolved := Array.replicate 62 none
  statics := none }

def pool8 : Array CpInfo := pool [(10, .class_ 12), (1, u "java/util/Collection"), (47, .class_ 61), (0, u "java/lang/Object"), (0, .class_ 63), (0, u "java/lang/Iterable")] 51

/-- java/util/Collection -/
def k8 : Class := { plain "java/util/Collection" (some 0) with
  accessFlags := 1537
  interfaces := #[7]
  cf := some (fileOf pool8 10 #[] #[] 1537 60 #[62] #[])
  fields := #[]
  methods := #[]
  instanceTypes := #[]
  staticTypes := #[]
  resolved := Array.replicate 115 none
  statics := none }

def pool9 : Array CpInfo := pool [(1, .methodref 2 3), (0, .class_ 4), (0, .nameAndType 5 6), (0, u "java/lang/Object"), (0, u "<init>"), (0, u "()V"), (1, .class_ 10), (1, u "java/util/AbstractCollection"), (66, .class_ 78), (0, u "java/util/Collection")] 81

def k9c0 : Code := { maxStack := 1, maxLocals := 1, code := jdk_22_method_1_code, exceptionTable := #[], attributes := #[] }
def k9m0 : Method := { name := "<init>", desc := "()V", sig := { parameters := [], returnType := none }, accessFlags := 4, code := some k9c0 }
/-- java/util/AbstractCollection -/
def k9 : Class := { plain "java/util/AbstractCollection" (some 0) with
  accessFlags := 1057
  interfaces := #[8]
  cf := some (fileOf pool9 8 #[] #[{ accessFlags := 4, nameIndex := 5, descriptorIndex := 6, attributes := #[] }] 1057 2 #[77] #[])
  fields := #[]
  methods := #[k9m0]
  instanceTypes := #[]
  staticTypes := #[]
  resolved := Array.replicate 160 none
  statics := none }

def pool10 : Array CpInfo := pool [(8, .class_ 10), (1, u "java/util/SequencedCollection"), (15, .class_ 27), (0, u "java/lang/Object"), (0, .class_ 29), (0, u "java/util/Collection")] 27

/-- java/util/SequencedCollection -/
def k10 : Class := { plain "java/util/SequencedCollection" (some 0) with
  accessFlags := 1537
  interfaces := #[8]
  cf := some (fileOf pool10 8 #[] #[] 1537 26 #[28] #[])
  fields := #[]
  methods := #[]
  instanceTypes := #[]
  staticTypes := #[]
  resolved := Array.replicate 57 none
  statics := none }

def pool11 : Array CpInfo := pool [(8, .class_ 10), (1, u "java/util/List"), (92, .class_ 104), (0, u "java/lang/Object"), (15, .class_ 121), (0, u "java/util/SequencedCollection")] 129

/-- java/util/List -/
def k11 : Class := { plain "java/util/List" (some 0) with
  accessFlags := 1537
  interfaces := #[10]
  cf := some (fileOf pool11 8 #[] #[] 1537 103 #[120] #[])
  fields := #[]
  methods := #[]
  instanceTypes := #[]
  staticTypes := #[]
  resolved := Array.replicate 251 none
  statics := none }

def pool12 : Array CpInfo := pool [(1, .methodref 2 3), (0, .class_ 4), (0, .nameAndType 5 6), (0, u "java/util/AbstractCollection"), (0, u "<init>"), (0, u "()V"), (0, .fieldref 8 9), (0, .class_ 10), (0, .nameAndType 11 12), (0, u "java/util/AbstractList"), (0, u "modCount"), (0, u "I"), (64, .class_ 78), (0, u "java/util/AbstractList$Itr"), (3, .class_ 83), (0, u "java/util/AbstractList$ListItr"), (9, .class_ 94), (0, u "java/util/AbstractList$RandomAccessSubList"), (3, .class_ 99), (0, u "java/util/AbstractList$SubList"), (33, .class_ 134), (0, u "java/util/List"), (73, .class_ 209), (0, u "java/util/AbstractList$SubList$1"), (0, .class_ 211), (0, u "java/util/AbstractList$RandomAccessSpliterator")] 6

def k12c0 : Code := { maxStack := 2, maxLocals := 1, code := jdk_39_method_1_code, exceptionTable := #[], attributes := #[] }
def k12m0 : Method := { name := "<init>", desc := "()V", sig := { parameters := [], returnType := none }, accessFlags := 4, code := some k12c0 }
/-- java/util/AbstractList -/
def k12 : Class := { plain "java/util/AbstractList" (some 9) with
  accessFlags := 1057
  interfaces := #[11]
  cf := some (fileOf pool12 8 #[.nestMembers #[93, 98, 208, 210, 82, 77]] #[{ accessFlags := 4, nameIndex := 5, descriptorIndex := 6, attributes := #[] }] 1057 2 #[133] #[{ accessFlags := 132, nameIndex := 11, descriptorIndex := 12, attributes := #[] }])
  fields := #[{ name := "modCount", type := .int, accessFlags := 132, slot := 0, constantValue := 0 }]
  methods := #[k12m0]
  instanceTypes := #[.int]
  staticTypes := #[]
  resolved := Array.replicate 218 none
  statics := none }

def pool13 : Array CpInfo := pool [(1, .class_ 2), (0, u "java/util/RandomAccess"), (0, .class_ 4), (0, u "java/lang/Object")] 2

/-- java/util/RandomAccess -/
def k13 : Class := { plain "java/util/RandomAccess" (some 0) with
  accessFlags := 1537
  interfaces := #[]
  cf := some (fileOf pool13 1 #[] #[] 1537 3 #[] #[])
  fields := #[]
  methods := #[]
  instanceTypes := #[]
  staticTypes := #[]
  resolved := Array.replicate 7 none
  statics := none }

def pool14 : Array CpInfo := pool [(1, .class_ 2), (0, u "java/lang/Cloneable"), (0, .class_ 4), (0, u "java/lang/Object")] 2

/-- java/lang/Cloneable -/
def k14 : Class := { plain "java/lang/Cloneable" (some 0) with
  accessFlags := 1537
  interfaces := #[]
  cf := some (fileOf pool14 1 #[] #[] 1537 3 #[] #[])
  fields := #[]
  methods := #[]
  instanceTypes := #[]
  staticTypes := #[]
  resolved := Array.replicate 7 none
  statics := none }

def pool15 : Array CpInfo := pool [(1, .methodref 2 3), (0, .class_ 4), (0, .nameAndType 5 6), (0, u "java/util/AbstractList"), (0, u "<init>"), (0, u "()V"), (0, .class_ 8), (0, u "java/lang/Object"), (0, .fieldref 10 11), (0, .class_ 12), (0, .nameAndType 13 14), (0, u "java/util/ArrayList"), (0, u "elementData"), (0, u "[Ljava/lang/Object;"), (2, u "EMPTY_ELEMENTDATA"), (21, .fieldref 10 40), (0, .nameAndType 41 14), (0, u "DEFAULTCAPACITY_EMPTY_ELEMENTDATA"), (5, u "()[Ljava/lang/Object;"), (0, .fieldref 10 49), (0, .nameAndType 50 51), (0, u "size"), (0, u "I"), (11, .fieldref 10 64), (0, .nameAndType 65 51), (0, u "modCount"), (3, .methodref 10 70), (0, .nameAndType 71 72), (0, u "grow"), (0, u "(I)[Ljava/lang/Object;"), (6, .methodref 80 81), (0, .class_ 82), (0, .nameAndType 83 84), (0, u "java/lang/Math"), (0, u "max"), (0, u "(II)I"), (11, u "(Ljava/lang/Object;)Z"), (32, .methodref 10 130), (0, .nameAndType 71 47), (0, .methodref 10 132), (0, .nameAndType 133 134), (0, u "add"), (0, u "(Ljava/lang/Object;[Ljava/lang/Object;I)V"), (13, .class_ 149), (0, u "java/util/List"), (112, .class_ 263), (0, u "java/util/ArrayList$ListItr"), (3, .class_ 268), (0, u "java/util/ArrayList$Itr"), (7, .class_ 277), (0, u "java/util/ArrayList$SubList"), (12, .class_ 291), (0, u "java/util/ArrayList$ArrayListSpliterator"), (37, .class_ 330), (0, u "java/util/RandomAccess"), (0, .class_ 332), (0, u "java/lang/Cloneable"), (0, .class_ 334), (0, u "java/io/Serializable"), (0, u "serialVersionUID"), (0, u "J"), (3, u "DEFAULT_CAPACITY"), (159, .class_ 501), (0, u "java/util/ArrayList$SubList$2"), (0, .class_ 503), (0, u "java/util/ArrayList$SubList$1")] 5

def k15c0 : Code := { maxStack := 2, maxLocals := 1, code := jdk_38_method_2_code, exceptionTable := #[], attributes := #[] }
def k15m0 : Method := { name := "<init>", desc := "()V", sig := { parameters := [], returnType := none }, accessFlags := 1, code := some k15c0 }
def k15c1 : Code := { maxStack := 4, maxLocals := 4, code := jdk_38_method_6_code, exceptionTable := #[], attributes := #[] }
def k15m1 : Method := { name := "grow", desc := "(I)[Ljava/lang/Object;", sig := { parameters := [.int], returnType := some (.array (.object "java/lang/Object")) }, accessFlags := 2, code := some k15c1 }
def k15c2 : Code := { maxStack := 3, maxLocals := 1, code := jdk_38_method_7_code, exceptionTable := #[], attributes := #[] }
def k15m2 : Method := { name := "grow", desc := "()[Ljava/lang/Object;", sig := { parameters := [], returnType := some (.array (.object "java/lang/Object")) }, accessFlags := 2, code := some k15c2 }
def k15c3 : Code := { maxStack := 3, maxLocals := 4, code := jdk_38_method_24_code, exceptionTable := #[], attributes := #[] }
def k15m3 : Method := { name := "add", desc := "(Ljava/lang/Object;[Ljava/lang/Object;I)V", sig := { parameters := [(.object "java/lang/Object"), (.array (.object "java/lang/Object")), .int], returnType := none }, accessFlags := 2, code := some k15c3 }
def k15c4 : Code := { maxStack := 4, maxLocals := 2, code := jdk_38_method_25_code, exceptionTable := #[], attributes := #[] }
def k15m4 : Method := { name := "add", desc := "(Ljava/lang/Object;)Z", sig := { parameters := [(.object "java/lang/Object")], returnType := some .boolean }, accessFlags := 1, code := some k15c4 }
/-- java/util/ArrayList -/
def k15 : Class := { plain "java/util/ArrayList" (some 12) with
  accessFlags := 33
  interfaces := #[11, 13, 14, 4]
  cf := some (fileOf pool15 10 #[.nestMembers #[290, 276, 500, 502, 262, 267]] #[{ accessFlags := 1, nameIndex := 5, descriptorIndex := 6, attributes := #[] }, { accessFlags := 2, nameIndex := 71, descriptorIndex := 72, attributes := #[] }, { accessFlags := 2, nameIndex := 71, descriptorIndex := 47, attributes := #[] }, { accessFlags := 2, nameIndex := 133, descriptorIndex := 134, attributes := #[] }, { accessFlags := 1, nameIndex := 133, descriptorIndex := 96, attributes := #[] }] 33 2 #[148, 329, 331, 333] #[{ accessFlags := 26, nameIndex := 335, descriptorIndex := 336, attributes := #[] }, { accessFlags := 26, nameIndex := 340, descriptorIndex := 51, attributes := #[] }, { accessFlags := 26, nameIndex := 17, descriptorIndex := 14, attributes := #[] }, { accessFlags := 26, nameIndex := 41, descriptorIndex := 14, attributes := #[] }, { accessFlags := 128, nameIndex := 13, descriptorIndex := 14, attributes := #[] }, { accessFlags := 2, nameIndex := 50, descriptorIndex := 51, attributes := #[] }])
  fields := #[{ name := "serialVersionUID", type := .long, accessFlags := 26, slot := 0, constantValue := 0 }, { name := "DEFAULT_CAPACITY", type := .int, accessFlags := 26, slot := 1, constantValue := 0 }, { name := "EMPTY_ELEMENTDATA", type := (.array (.object "java/lang/Object")), accessFlags := 26, slot := 2, constantValue := 0 }, { name := "DEFAULTCAPACITY_EMPTY_ELEMENTDATA", type := (.array (.object "java/lang/Object")), accessFlags := 26, slot := 3, constantValue := 0 }, { name := "elementData", type := (.array (.object "java/lang/Object")), accessFlags := 128, slot := 1, constantValue := 0 }, { name := "size", type := .int, accessFlags := 2, slot := 2, constantValue := 0 }]
  methods := #[k15m0, k15m1, k15m2, k15m3, k15m4]
  instanceTypes := #[.int, (.array (.object "java/lang/Object")), .int]
  staticTypes := #[.long, .int, (.array (.object "java/lang/Object")), (.array (.object "java/lang/Object"))]
  resolved := Array.replicate 509 none
  statics := some 1 }

def pool16 : Array CpInfo := pool [(2, .class_ 4), (1, u "java/lang/CharSequence"), (42, .class_ 48), (0, u "java/lang/CharSequence$1CodePointIterator"), (10, .class_ 60), (0, u "java/lang/CharSequence$1CharIterator"), (5, .class_ 67), (0, u "java/lang/Object")] 63

/-- java/lang/CharSequence -/
def k16 : Class := { plain "java/lang/CharSequence" (some 0) with
  accessFlags := 1537
  interfaces := #[]
  cf := some (fileOf pool16 2 #[.nestMembers #[47, 59]] #[] 1537 66 #[] #[])
  fields := #[]
  methods := #[]
  instanceTypes := #[]
  staticTypes := #[]
  resolved := Array.replicate 131 none
  statics := none }

def pool17 : Array CpInfo := pool [(1, .class_ 2), (0, u "java/lang/constant/ConstantDesc"), (0, .class_ 4), (0, u "java/lang/Object")] 32

/-- java/lang/constant/ConstantDesc -/
def k17 : Class := { plain "java/lang/constant/ConstantDesc" (some 0) with
  accessFlags := 1537
  interfaces := #[]
  cf := some (fileOf pool17 1 #[] #[] 1537 3 #[] #[])
  fields := #[]
  methods := #[]
  instanceTypes := #[]
  staticTypes := #[]
  resolved := Array.replicate 37 none
  statics := none }

def pool18 : Array CpInfo := pool [(1, .methodref 2 3), (0, .class_ 4), (0, .nameAndType 5 6), (0, u "java/lang/Object"), (0, u "<init>"), (0, u "()V"), (2, .fieldref 10 11), (0, .class_ 12), (0, .nameAndType 13 14), (0, u "java/lang/String"), (0, u "value"), (0, u "[B"), (0, .fieldref 10 16), (0, .nameAndType 17 18), (0, u "coder"), (0, u "B"), (2, u "hash"), (0, u "I"), (2, u "hashIsZero"), (0, u "Z"), (0, .methodref 10 28), (0, .nameAndType 5 29), (0, u "([CIILjava/lang/Void;)V"), (8, .fieldref 10 39), (0, .nameAndType 40 26), (0, u "COMPACT_STRINGS"), (1, .class_ 44), (1, u "java/lang/StringUTF16"), (0, u "compress"), (1, .methodref 42 48), (0, .nameAndType 49 50), (0, u "coderFromArrayLen"), (0, u "([BI)B"), (2, u "toBytes"), (53, .class_ 109), (1, u "java/lang/StringLatin1"), (67, .methodref 42 178), (0, .nameAndType 45 179), (0, u "([CII)[B"), (29, .methodref 10 210), (0, .nameAndType 5 211), (0, u "([BB)V"), (157, u "(C)Z"), (205, .class_ 576), (0, u "java/lang/CharSequence"), (22, u "CASE_INSENSITIVE_ORDER"), (0, u "Ljava/util/Comparator;"), (181, u "valueOf"), (0, u "(C)Ljava/lang/String;"), (226, u "([C)V"), (4, .methodref 107 1016), (0, .nameAndType 1017 369), (0, u "canEncode"), (0, .methodref 107 1019), (0, .nameAndType 53 1020), (0, u "(C)[B"), (80, u "serialPersistentFields"), (0, u "[Ljava/io/ObjectStreamField;"), (0, .class_ 1104), (0, u "java/lang/String$CaseInsensitiveComparator"), (1, .class_ 1107), (0, u "java/io/Serializable"), (0, .class_ 1109), (0, u "java/lang/Comparable"), (0, .class_ 1111), (0, u "java/lang/constant/Constable"), (0, .class_ 1113), (0, u "java/lang/constant/ConstantDesc"), (2, u "serialVersionUID"), (0, u "J"), (3, u "REPL"), (0, u "C"), (2, u "LATIN1"), (1, u "UTF16")] 323

def k18m0 : Method := { name := "<init>", desc := "()V", sig := { parameters := [], returnType := none }, accessFlags := 1, code := none }
def k18c1 : Code := { maxStack := 5, maxLocals := 2, code := jdk_42_method_3_code, exceptionTable := #[], attributes := #[] }
def k18m1 : Method := { name := "<init>", desc := "([C)V", sig := { parameters := [(.array .char)], returnType := none }, accessFlags := 1, code := some k18c1 }
def k18c2 : Code := { maxStack := 4, maxLocals := 1, code := jdk_42_method_139_code, exceptionTable := #[], attributes := #[] }
def k18m2 : Method := { name := "valueOf", desc := "(C)Ljava/lang/String;", sig := { parameters := [.char], returnType := some (.object "java/lang/String") }, accessFlags := 9, code := some k18c2 }
def k18c3 : Code := { maxStack := 4, maxLocals := 6, code := jdk_42_method_149_code, exceptionTable := #[], attributes := #[] }
def k18m3 : Method := { name := "<init>", desc := "([CIILjava/lang/Void;)V", sig := { parameters := [(.array .char), .int, .int, (.object "java/lang/Void")], returnType := none }, accessFlags := 2, code := some k18c3 }
def k18c4 : Code := { maxStack := 2, maxLocals := 3, code := jdk_42_method_151_code, exceptionTable := #[], attributes := #[] }
def k18m4 : Method := { name := "<init>", desc := "([BB)V", sig := { parameters := [(.array .byte), .byte], returnType := none }, accessFlags := 0, code := some k18c4 }
/-- java/lang/String -/
def k18 : Class := { plain "java/lang/String" (some 0) with
  accessFlags := 49
  interfaces := #[4, 3, 16, 2, 17]
  cf := some (fileOf pool18 10 #[.nestMembers #[1103]] #[{ accessFlags := 1, nameIndex := 5, descriptorIndex := 6, attributes := #[] }, { accessFlags := 1, nameIndex := 5, descriptorIndex := 1010, attributes := #[] }, { accessFlags := 9, nameIndex := 782, descriptorIndex := 783, attributes := #[] }, { accessFlags := 2, nameIndex := 5, descriptorIndex := 29, attributes := #[] }, { accessFlags := 0, nameIndex := 5, descriptorIndex := 211, attributes := #[] }] 49 2 #[1106, 1108, 575, 1110, 1112] #[{ accessFlags := 18, nameIndex := 13, descriptorIndex := 14, attributes := #[] }, { accessFlags := 18, nameIndex := 17, descriptorIndex := 18, attributes := #[] }, { accessFlags := 2, nameIndex := 21, descriptorIndex := 22, attributes := #[] }, { accessFlags := 2, nameIndex := 25, descriptorIndex := 26, attributes := #[] }, { accessFlags := 26, nameIndex := 1116, descriptorIndex := 1117, attributes := #[] }, { accessFlags := 24, nameIndex := 40, descriptorIndex := 26, attributes := #[] }, { accessFlags := 26, nameIndex := 1101, descriptorIndex := 1102, attributes := #[] }, { accessFlags := 26, nameIndex := 1121, descriptorIndex := 1122, attributes := #[] }, { accessFlags := 25, nameIndex := 599, descriptorIndex := 600, attributes := #[] }, { accessFlags := 24, nameIndex := 1125, descriptorIndex := 18, attributes := #[] }, { accessFlags := 24, nameIndex := 1127, descriptorIndex := 18, attributes := #[] }])
  fields := #[{ name := "value", type := (.array .byte), accessFlags := 18, slot := 0, constantValue := 0 }, { name := "coder", type := .byte, accessFlags := 18, slot := 1, constantValue := 0 }, { name := "hash", type := .int, accessFlags := 2, slot := 2, constantValue := 0 }, { name := "hashIsZero", type := .boolean, accessFlags := 2, slot := 3, constantValue := 0 }, { name := "serialVersionUID", type := .long, accessFlags := 26, slot := 0, constantValue := 0 }, { name := "COMPACT_STRINGS", type := .boolean, accessFlags := 24, slot := 1, constantValue := 0 }, { name := "serialPersistentFields", type := (.array (.object "java/io/ObjectStreamField")), accessFlags := 26, slot := 2, constantValue := 0 }, { name := "REPL", type := .char, accessFlags := 26, slot := 3, constantValue := 0 }, { name := "CASE_INSENSITIVE_ORDER", type := (.object "java/util/Comparator"), accessFlags := 25, slot := 4, constantValue := 0 }, { name := "LATIN1", type := .byte, accessFlags := 24, slot := 5, constantValue := 0 }, { name := "UTF16", type := .byte, accessFlags := 24, slot := 6, constantValue := 0 }]
  methods := #[k18m0, k18m1, k18m2, k18m3, k18m4]
  instanceTypes := #[(.array .byte), .byte, .int, .boolean]
  staticTypes := #[.long, .boolean, (.array (.object "java/io/ObjectStreamField")), .char, (.object "java/util/Comparator"), .byte, .byte]
  resolved := Array.replicate 1451 none
  statics := some 2 }

def pool19 : Array CpInfo := pool [(4, .class_ 6), (1, u "java/lang/Object"), (0, u "<init>"), (0, u "()V"), (5, .class_ 16), (1, u "java/lang/StringLatin1"), (73, u "canEncode"), (14, u "(C)Z"), (15, u "$assertionsDisabled"), (0, u "Z"), (98, .class_ 223), (1, u "java/lang/StringLatin1$LinesSpliterator"), (156, u "toBytes"), (1, u "(C)[B"), (7, .class_ 391), (0, u "java/lang/StringLatin1$CharsSpliterator")] 3

def k19m0 : Method := { name := "<init>", desc := "()V", sig := { parameters := [], returnType := none }, accessFlags := 0, code := none }
def k19c1 : Code := { maxStack := 2, maxLocals := 1, code := jdk_43_method_3_code, exceptionTable := #[], attributes := #[] }
def k19m1 : Method := { name := "canEncode", desc := "(C)Z", sig := { parameters := [.char], returnType := some .boolean }, accessFlags := 9, code := some k19c1 }
def k19c2 : Code := { maxStack := 4, maxLocals := 1, code := jdk_43_method_46_code, exceptionTable := #[], attributes := #[] }
def k19m2 : Method := { name := "toBytes", desc := "(C)[B", sig := { parameters := [.char], returnType := some (.array .byte) }, accessFlags := 9, code := some k19c2 }
/-- java/lang/StringLatin1 -/
def k19 : Class := { plain "java/lang/StringLatin1" (some 0) with
  accessFlags := 48
  interfaces := #[]
  cf := some (fileOf pool19 14 #[.nestMembers #[390, 221]] #[{ accessFlags := 0, nameIndex := 7, descriptorIndex := 8, attributes := #[] }, { accessFlags := 9, nameIndex := 90, descriptorIndex := 105, attributes := #[] }, { accessFlags := 9, nameIndex := 380, descriptorIndex := 382, attributes := #[] }] 48 4 #[] #[{ accessFlags := 4120, nameIndex := 121, descriptorIndex := 122, attributes := #[] }])
  fields := #[{ name := "$assertionsDisabled", type := .boolean, accessFlags := 4120, slot := 0, constantValue := 0 }]
  methods := #[k19m0, k19m1, k19m2]
  instanceTypes := #[]
  staticTypes := #[.boolean]
  resolved := Array.replicate 395 none
  statics := none }

def pool20 : Array CpInfo := pool [(1, .class_ 2), (0, u "java/lang/Math"), (1, .class_ 6), (1, u "java/lang/Object"), (0, u "<init>"), (0, u "()V"), (89, .class_ 100), (1, u "java/lang/Math$RandomNumberGeneratorHolder"), (71, u "negativeZeroFloatBits"), (0, u "J"), (2, u "negativeZeroDoubleBits"), (21, u "max"), (46, u "$assertionsDisabled"), (0, u "Z"), (88, u "(II)I"), (2, u "twoToTheDoubleScaleDown"), (0, u "D"), (4, u "twoToTheDoubleScaleUp"), (9, u "E"), (3, u "PI"), (2, u "TAU"), (2, u "DEGREES_TO_RADIANS"), (0, u "RADIANS_TO_DEGREES")] 94

def k20m0 : Method := { name := "<init>", desc := "()V", sig := { parameters := [], returnType := none }, accessFlags := 2, code := none }
def k20c1 : Code := { maxStack := 2, maxLocals := 2, code := jdk_29_method_65_code, exceptionTable := #[], attributes := #[] }
def k20m1 : Method := { name := "max", desc := "(II)I", sig := { parameters := [.int, .int], returnType := some .int }, accessFlags := 9, code := some k20c1 }
/-- java/lang/Math -/
def k20 : Class := { plain "java/lang/Math" (some 0) with
  accessFlags := 49
  interfaces := #[]
  cf := some (fileOf pool20 1 #[.nestMembers #[98]] #[{ accessFlags := 2, nameIndex := 7, descriptorIndex := 8, attributes := #[] }, { accessFlags := 9, nameIndex := 198, descriptorIndex := 335, attributes := #[] }] 49 4 #[] #[{ accessFlags := 25, nameIndex := 354, descriptorIndex := 339, attributes := #[] }, { accessFlags := 25, nameIndex := 358, descriptorIndex := 339, attributes := #[] }, { accessFlags := 25, nameIndex := 361, descriptorIndex := 339, attributes := #[] }, { accessFlags := 26, nameIndex := 364, descriptorIndex := 339, attributes := #[] }, { accessFlags := 26, nameIndex := 365, descriptorIndex := 339, attributes := #[] }, { accessFlags := 26, nameIndex := 172, descriptorIndex := 173, attributes := #[] }, { accessFlags := 26, nameIndex := 176, descriptorIndex := 173, attributes := #[] }, { accessFlags := 8, nameIndex := 344, descriptorIndex := 339, attributes := #[] }, { accessFlags := 8, nameIndex := 338, descriptorIndex := 339, attributes := #[] }, { accessFlags := 4120, nameIndex := 245, descriptorIndex := 246, attributes := #[] }])
  fields := #[{ name := "E", type := .double, accessFlags := 25, slot := 0, constantValue := 0 }, { name := "PI", type := .double, accessFlags := 25, slot := 1, constantValue := 0 }, { name := "TAU", type := .double, accessFlags := 25, slot := 2, constantValue := 0 }, { name := "DEGREES_TO_RADIANS", type := .double, accessFlags := 26, slot := 3, constantValue := 0 }, { name := "RADIANS_TO_DEGREES", type := .double, accessFlags := 26, slot := 4, constantValue := 0 }, { name := "negativeZeroFloatBits", type := .long, accessFlags := 26, slot := 5, constantValue := 0 }, { name := "negativeZeroDoubleBits", type := .long, accessFlags := 26, slot := 6, constantValue := 0 }, { name := "twoToTheDoubleScaleUp", type := .double, accessFlags := 8, slot := 7, constantValue := 0 }, { name := "twoToTheDoubleScaleDown", type := .double, accessFlags := 8, slot := 8, constantValue := 0 }, { name := "$assertionsDisabled", type := .boolean, accessFlags := 4120, slot := 9, constantValue := 0 }]
  methods := #[k20m0, k20m1]
  instanceTypes := #[]
  staticTypes := #[.double, .double, .double, .double, .double, .long, .long, .double, .double, .boolean]
  resolved := Array.replicate 460 none
  statics := none }

def pool21 : Array CpInfo := pool [(1, .methodref 2 3), (0, .class_ 4), (0, .nameAndType 5 6), (0, u "java/lang/Object"), (0, u "<init>"), (0, u "()V"), (0, .class_ 8), (0, u "java/lang/Record")] 13

def k21c0 : Code := { maxStack := 1, maxLocals := 1, code := jdk_30_method_1_code, exceptionTable := #[], attributes := #[] }
def k21m0 : Method := { name := "<init>", desc := "()V", sig := { parameters := [], returnType := none }, accessFlags := 4, code := some k21c0 }
/-- java/lang/Record -/
def k21 : Class := { plain "java/lang/Record" (some 0) with
  accessFlags := 1057
  interfaces := #[]
  cf := some (fileOf pool21 7 #[] #[{ accessFlags := 4, nameIndex := 5, descriptorIndex := 6, attributes := #[] }] 1057 2 #[] #[])
  fields := #[]
  methods := #[k21m0]
  instanceTypes := #[]
  staticTypes := #[]
  resolved := Array.replicate 22 none
  statics := none }

def pool22 : Array CpInfo := pool [(1, .methodref 2 3), (0, .class_ 4), (0, .nameAndType 5 6), (0, u "java/lang/Record"), (0, u "<init>"), (0, u "()V"), (0, .fieldref 8 9), (0, .class_ 10), (0, .nameAndType 11 12), (0, u "com/example/secondkey/secondkey/config/Config$User"), (0, u "username"), (0, u "Ljava/lang/String;"), (0, .fieldref 8 14), (0, .nameAndType 15 12), (0, u "password"), (0, .fieldref 8 17), (0, .nameAndType 18 19), (0, u "roles"), (0, u "Ljava/util/List;"), (0, .fieldref 8 21), (0, .nameAndType 22 12), (0, u "totpSecret"), (0, .fieldref 8 24), (0, .nameAndType 25 26), (0, u "secondFactor"), (0, u "Lcom/example/secondkey/secondkey/config/Config$SecondFactor;"), (0, .methodref 8 28), (0, .nameAndType 29 30), (0, u "enrolled"), (0, u "()Z"), (0, .fieldref 32 33), (0, .class_ 34), (0, .nameAndType 35 26), (0, u "com/example/secondkey/secondkey/config/Config$SecondFactor"), (0, u "ALWAYS"), (14, u "(Ljava/lang/String;Ljava/lang/String;Ljava/util/List;Ljava/lang/String;Lcom/example/secondkey/secondkey/config/Config$SecondFactor;)V"), (5, u "owesSecondFactor"), (0, u "(Z)Z"), (10, .class_ 69), (0, u "com/example/secondkey/secondkey/config/Config")] 32

def k22c0 : Code := { maxStack := 2, maxLocals := 6, code := prog_8_method_1_code, exceptionTable := #[], attributes := #[] }
def k22m0 : Method := { name := "<init>", desc := "(Ljava/lang/String;Ljava/lang/String;Ljava/util/List;Ljava/lang/String;Lcom/example/secondkey/secondkey/config/Config$SecondFactor;)V", sig := { parameters := [(.object "java/lang/String"), (.object "java/lang/String"), (.object "java/util/List"), (.object "java/lang/String"), (.object "com/example/secondkey/secondkey/config/Config$SecondFactor")], returnType := none }, accessFlags := 1, code := some k22c0 }
def k22c1 : Code := { maxStack := 1, maxLocals := 1, code := prog_8_method_2_code, exceptionTable := #[], attributes := #[] }
def k22m1 : Method := { name := "enrolled", desc := "()Z", sig := { parameters := [], returnType := some .boolean }, accessFlags := 1, code := some k22c1 }
def k22c2 : Code := { maxStack := 2, maxLocals := 2, code := prog_8_method_3_code, exceptionTable := #[], attributes := #[] }
def k22m2 : Method := { name := "owesSecondFactor", desc := "(Z)Z", sig := { parameters := [.boolean], returnType := some .boolean }, accessFlags := 1, code := some k22c2 }
/-- com/example/secondkey/secondkey/config/Config$User -/
def k22 : Class := { plain "com/example/secondkey/secondkey/config/Config$User" (some 21) with
  accessFlags := 49
  interfaces := #[]
  cf := some (fileOf pool22 8 #[.nestHost 68] #[{ accessFlags := 1, nameIndex := 5, descriptorIndex := 50, attributes := #[] }, { accessFlags := 1, nameIndex := 29, descriptorIndex := 30, attributes := #[] }, { accessFlags := 1, nameIndex := 56, descriptorIndex := 57, attributes := #[] }] 49 2 #[] #[{ accessFlags := 18, nameIndex := 11, descriptorIndex := 12, attributes := #[] }, { accessFlags := 18, nameIndex := 15, descriptorIndex := 12, attributes := #[] }, { accessFlags := 18, nameIndex := 18, descriptorIndex := 19, attributes := #[] }, { accessFlags := 18, nameIndex := 22, descriptorIndex := 12, attributes := #[] }, { accessFlags := 18, nameIndex := 25, descriptorIndex := 26, attributes := #[] }])
  fields := #[{ name := "username", type := (.object "java/lang/String"), accessFlags := 18, slot := 0, constantValue := 0 }, { name := "password", type := (.object "java/lang/String"), accessFlags := 18, slot := 1, constantValue := 0 }, { name := "roles", type := (.object "java/util/List"), accessFlags := 18, slot := 2, constantValue := 0 }, { name := "totpSecret", type := (.object "java/lang/String"), accessFlags := 18, slot := 3, constantValue := 0 }, { name := "secondFactor", type := (.object "com/example/secondkey/secondkey/config/Config$SecondFactor"), accessFlags := 18, slot := 4, constantValue := 0 }]
  methods := #[k22m0, k22m1, k22m2]
  instanceTypes := #[(.object "java/lang/String"), (.object "java/lang/String"), (.object "java/util/List"), (.object "java/lang/String"), (.object "com/example/secondkey/secondkey/config/Config$SecondFactor")]
  staticTypes := #[]
  resolved := Array.replicate 102 none
  statics := none }

def pool23 : Array CpInfo := pool [(6, .class_ 8), (1, u "java/lang/Object"), (0, u "<init>"), (0, u "()V"), (1, .class_ 14), (1, u "java/lang/StringUTF16"), (31, u "$assertionsDisabled"), (0, u "Z"), (13, u "HI_BYTE_SHIFT"), (0, u "I"), (2, u "LO_BYTE_SHIFT"), (49, .methodref 12 116), (0, .nameAndType 117 118), (0, u "compress"), (0, u "([CI[BII)I"), (3, u "([CII)[B"), (138, u "coderFromArrayLen"), (0, u "([BI)B"), (106, .class_ 371), (1, u "java/lang/StringUTF16$LinesSpliterator"), (58, u "MAX_LENGTH"), (196, .class_ 628), (0, u "java/lang/StringUTF16$CodePointsSpliterator"), (0, .class_ 630), (0, u "java/lang/StringUTF16$CharsSpliterator")] 4

def k23m0 : Method := { name := "<init>", desc := "()V", sig := { parameters := [], returnType := none }, accessFlags := 0, code := none }
def k23c1 : Code := { maxStack := 2, maxLocals := 2, code := jdk_52_method_15_code, exceptionTable := #[], attributes := #[] }
def k23m1 : Method := { name := "coderFromArrayLen", desc := "([BI)B", sig := { parameters := [(.array .byte), .int], returnType := some .byte }, accessFlags := 8, code := some k23c1 }
def k23c2 : Code := { maxStack := 5, maxLocals := 6, code := jdk_52_method_16_code, exceptionTable := #[], attributes := #[] }
def k23m2 : Method := { name := "compress", desc := "([CII)[B", sig := { parameters := [(.array .char), .int, .int], returnType := some (.array .byte) }, accessFlags := 9, code := some k23c2 }
def k23c3 : Code := { maxStack := 3, maxLocals := 7, code := jdk_52_method_21_code, exceptionTable := #[], attributes := #[] }
def k23m3 : Method := { name := "compress", desc := "([CI[BII)I", sig := { parameters := [(.array .char), .int, (.array .byte), .int, .int], returnType := some .int }, accessFlags := 9, code := some k23c3 }
/-- java/lang/StringUTF16 -/
def k23 : Class := { plain "java/lang/StringUTF16" (some 0) with
  accessFlags := 48
  interfaces := #[]
  cf := some (fileOf pool23 12 #[.nestMembers #[627, 629, 369]] #[{ accessFlags := 0, nameIndex := 9, descriptorIndex := 10, attributes := #[] }, { accessFlags := 8, nameIndex := 261, descriptorIndex := 262, attributes := #[] }, { accessFlags := 9, nameIndex := 117, descriptorIndex := 122, attributes := #[] }, { accessFlags := 9, nameIndex := 117, descriptorIndex := 118, attributes := #[] }] 48 6 #[] #[{ accessFlags := 26, nameIndex := 61, descriptorIndex := 62, attributes := #[] }, { accessFlags := 26, nameIndex := 65, descriptorIndex := 62, attributes := #[] }, { accessFlags := 24, nameIndex := 430, descriptorIndex := 62, attributes := #[] }, { accessFlags := 4120, nameIndex := 46, descriptorIndex := 47, attributes := #[] }])
  fields := #[{ name := "HI_BYTE_SHIFT", type := .int, accessFlags := 26, slot := 0, constantValue := 0 }, { name := "LO_BYTE_SHIFT", type := .int, accessFlags := 26, slot := 1, constantValue := 0 }, { name := "MAX_LENGTH", type := .int, accessFlags := 24, slot := 2, constantValue := 0 }, { name := "$assertionsDisabled", type := .boolean, accessFlags := 4120, slot := 3, constantValue := 0 }]
  methods := #[k23m0, k23m1, k23m2, k23m3]
  instanceTypes := #[]
  staticTypes := #[.int, .int, .int, .boolean]
  resolved := Array.replicate 635 none
  statics := none }

def pool24 : Array CpInfo := pool [(2, .class_ 4), (1, u "java/lang/Object"), (0, u "<init>"), (0, u "()V"), (17, .class_ 26), (1, u "jdk/internal/util/Preconditions"), (28, .class_ 56), (0, u "jdk/internal/util/Preconditions$4"), (57, .class_ 115), (0, u "jdk/internal/util/Preconditions$1"), (7, u "SIOOBE_FORMATTER"), (0, u "Ljava/util/function/BiFunction;"), (0, .class_ 126), (0, u "jdk/internal/util/Preconditions$2"), (3, u "AIOOBE_FORMATTER"), (0, .class_ 132), (0, u "jdk/internal/util/Preconditions$3"), (3, u "IOOBE_FORMATTER")] 57

def k24m0 : Method := { name := "<init>", desc := "()V", sig := { parameters := [], returnType := none }, accessFlags := 1, code := none }
/-- jdk/internal/util/Preconditions -/
def k24 : Class := { plain "jdk/internal/util/Preconditions" (some 0) with
  accessFlags := 33
  interfaces := #[]
  cf := some (fileOf pool24 24 #[.nestMembers #[55, 131, 125, 114]] #[{ accessFlags := 1, nameIndex := 5, descriptorIndex := 6, attributes := #[] }] 33 2 #[] #[{ accessFlags := 25, nameIndex := 123, descriptorIndex := 124, attributes := #[] }, { accessFlags := 25, nameIndex := 130, descriptorIndex := 124, attributes := #[] }, { accessFlags := 25, nameIndex := 136, descriptorIndex := 124, attributes := #[] }])
  fields := #[{ name := "SIOOBE_FORMATTER", type := (.object "java/util/function/BiFunction"), accessFlags := 25, slot := 0, constantValue := 0 }, { name := "AIOOBE_FORMATTER", type := (.object "java/util/function/BiFunction"), accessFlags := 25, slot := 1, constantValue := 0 }, { name := "IOOBE_FORMATTER", type := (.object "java/util/function/BiFunction"), accessFlags := 25, slot := 2, constantValue := 0 }]
  methods := #[k24m0]
  instanceTypes := #[]
  staticTypes := #[(.object "java/util/function/BiFunction"), (.object "java/util/function/BiFunction"), (.object "java/util/function/BiFunction")]
  resolved := Array.replicate 194 none
  statics := some 3 }

def pool25 : Array CpInfo := pool [(9, u "<init>"), (6, .class_ 18), (1, u "java/lang/Object"), (0, u "()V"), (1, .class_ 23), (1, u "jdk/internal/util/ArraysSupport"), (0, u "LOG2_ARRAY_LONG_INDEX_SCALE"), (0, u "I"), (2, u "U"), (0, u "Ljdk/internal/misc/Unsafe;"), (8, u "BIG_ENDIAN"), (0, u "Z"), (8, u "LOG2_BYTE_BIT_SIZE"), (4, u "LOG2_ARRAY_INT_INDEX_SCALE"), (54, u "JLA"), (0, u "Ljdk/internal/access/JavaLangAccess;"), (11, u "LOG2_ARRAY_BOOLEAN_INDEX_SCALE"), (9, u "LOG2_ARRAY_BYTE_INDEX_SCALE"), (5, u "LOG2_ARRAY_CHAR_INDEX_SCALE"), (5, u "LOG2_ARRAY_SHORT_INDEX_SCALE"), (18, u "LOG2_ARRAY_FLOAT_INDEX_SCALE"), (24, u "LOG2_ARRAY_DOUBLE_INDEX_SCALE"), (89, u "T_BOOLEAN"), (2, u "T_CHAR"), (1, u "T_FLOAT"), (1, u "T_DOUBLE"), (1, u "T_BYTE"), (1, u "T_SHORT"), (1, u "T_INT"), (1, u "T_LONG"), (1, u "SOFT_MAX_ARRAY_LENGTH")] 83

def k25m0 : Method := { name := "<init>", desc := "()V", sig := { parameters := [], returnType := none }, accessFlags := 2, code := none }
/-- jdk/internal/util/ArraysSupport -/
def k25 : Class := { plain "jdk/internal/util/ArraysSupport" (some 0) with
  accessFlags := 33
  interfaces := #[]
  cf := some (fileOf pool25 21 #[] #[{ accessFlags := 2, nameIndex := 9, descriptorIndex := 19, attributes := #[] }] 33 16 #[] #[{ accessFlags := 24, nameIndex := 28, descriptorIndex := 29, attributes := #[] }, { accessFlags := 26, nameIndex := 38, descriptorIndex := 39, attributes := #[] }, { accessFlags := 25, nameIndex := 121, descriptorIndex := 25, attributes := #[] }, { accessFlags := 25, nameIndex := 131, descriptorIndex := 25, attributes := #[] }, { accessFlags := 25, nameIndex := 137, descriptorIndex := 25, attributes := #[] }, { accessFlags := 25, nameIndex := 143, descriptorIndex := 25, attributes := #[] }, { accessFlags := 25, nameIndex := 53, descriptorIndex := 25, attributes := #[] }, { accessFlags := 25, nameIndex := 24, descriptorIndex := 25, attributes := #[] }, { accessFlags := 25, nameIndex := 162, descriptorIndex := 25, attributes := #[] }, { accessFlags := 25, nameIndex := 187, descriptorIndex := 25, attributes := #[] }, { accessFlags := 26, nameIndex := 48, descriptorIndex := 25, attributes := #[] }, { accessFlags := 25, nameIndex := 277, descriptorIndex := 25, attributes := #[] }, { accessFlags := 25, nameIndex := 280, descriptorIndex := 25, attributes := #[] }, { accessFlags := 25, nameIndex := 282, descriptorIndex := 25, attributes := #[] }, { accessFlags := 25, nameIndex := 284, descriptorIndex := 25, attributes := #[] }, { accessFlags := 25, nameIndex := 286, descriptorIndex := 25, attributes := #[] }, { accessFlags := 25, nameIndex := 288, descriptorIndex := 25, attributes := #[] }, { accessFlags := 25, nameIndex := 290, descriptorIndex := 25, attributes := #[] }, { accessFlags := 25, nameIndex := 292, descriptorIndex := 25, attributes := #[] }, { accessFlags := 26, nameIndex := 108, descriptorIndex := 109, attributes := #[] }, { accessFlags := 25, nameIndex := 294, descriptorIndex := 25, attributes := #[] }])
  fields := #[{ name := "U", type := (.object "jdk/internal/misc/Unsafe"), accessFlags := 24, slot := 0, constantValue := 0 }, { name := "BIG_ENDIAN", type := .boolean, accessFlags := 26, slot := 1, constantValue := 0 }, { name := "LOG2_ARRAY_BOOLEAN_INDEX_SCALE", type := .int, accessFlags := 25, slot := 2, constantValue := 0 }, { name := "LOG2_ARRAY_BYTE_INDEX_SCALE", type := .int, accessFlags := 25, slot := 3, constantValue := 0 }, { name := "LOG2_ARRAY_CHAR_INDEX_SCALE", type := .int, accessFlags := 25, slot := 4, constantValue := 0 }, { name := "LOG2_ARRAY_SHORT_INDEX_SCALE", type := .int, accessFlags := 25, slot := 5, constantValue := 0 }, { name := "LOG2_ARRAY_INT_INDEX_SCALE", type := .int, accessFlags := 25, slot := 6, constantValue := 0 }, { name := "LOG2_ARRAY_LONG_INDEX_SCALE", type := .int, accessFlags := 25, slot := 7, constantValue := 0 }, { name := "LOG2_ARRAY_FLOAT_INDEX_SCALE", type := .int, accessFlags := 25, slot := 8, constantValue := 0 }, { name := "LOG2_ARRAY_DOUBLE_INDEX_SCALE", type := .int, accessFlags := 25, slot := 9, constantValue := 0 }, { name := "LOG2_BYTE_BIT_SIZE", type := .int, accessFlags := 26, slot := 10, constantValue := 0 }, { name := "T_BOOLEAN", type := .int, accessFlags := 25, slot := 11, constantValue := 0 }, { name := "T_CHAR", type := .int, accessFlags := 25, slot := 12, constantValue := 0 }, { name := "T_FLOAT", type := .int, accessFlags := 25, slot := 13, constantValue := 0 }, { name := "T_DOUBLE", type := .int, accessFlags := 25, slot := 14, constantValue := 0 }, { name := "T_BYTE", type := .int, accessFlags := 25, slot := 15, constantValue := 0 }, { name := "T_SHORT", type := .int, accessFlags := 25, slot := 16, constantValue := 0 }, { name := "T_INT", type := .int, accessFlags := 25, slot := 17, constantValue := 0 }, { name := "T_LONG", type := .int, accessFlags := 25, slot := 18, constantValue := 0 }, { name := "JLA", type := (.object "jdk/internal/access/JavaLangAccess"), accessFlags := 26, slot := 19, constantValue := 0 }, { name := "SOFT_MAX_ARRAY_LENGTH", type := .int, accessFlags := 25, slot := 20, constantValue := 0 }]
  methods := #[k25m0]
  instanceTypes := #[]
  staticTypes := #[(.object "jdk/internal/misc/Unsafe"), .boolean, .int, .int, .int, .int, .int, .int, .int, .int, .int, .int, .int, .int, .int, .int, .int, .int, .int, (.object "jdk/internal/access/JavaLangAccess"), .int]
  resolved := Array.replicate 378 none
  statics := none }

/-- the primitive byte -/
def k26 : Class := { plain "byte" none with kind := .primitive 'B', accessFlags := 0x411 }
/-- [B -/
def k27 : Class := { plain "[B" (some 0) with kind := .array 26 .byte, interfaces := #[14, 4], accessFlags := 1041 }

/-- the primitive char -/
def k28 : Class := { plain "char" none with kind := .primitive 'C', accessFlags := 0x411 }
/-- [C -/
def k29 : Class := { plain "[C" (some 0) with kind := .array 28 .char, interfaces := #[14, 4], accessFlags := 1041 }

/-- the primitive int -/
def k30 : Class := { plain "int" none with kind := .primitive 'I', accessFlags := 0x411 }
/-- [I -/
def k31 : Class := { plain "[I" (some 0) with kind := .array 30 .int, interfaces := #[14, 4], accessFlags := 1041 }

/-- [Ljava/lang/Object; -/
def k32 : Class := { plain "[Ljava/lang/Object;" (some 0) with kind := .array 0 (.object "java/lang/Object"), interfaces := #[14, 4], accessFlags := 1041 }

def heap : Heap := #[{ cls := 6, slots := #[.ref 4, .ref 5, .null], vm := .statics 6 },
  { cls := 15, slots := #[.long 0, .int 0, .ref 6, .ref 7], vm := .statics 15 },
  { cls := 18, slots := #[.long 0, .int 1, .null, .int 0, .null, .int 0, .int 0], vm := .statics 18 },
  { cls := 24, slots := #[.null, .null, .null], vm := .statics 24 },
  { cls := 6, slots := #[.null, .int 0, .int 0, .null], vm := .none },
  { cls := 6, slots := #[.null, .int 1, .int 0, .null], vm := .none },
  { cls := 32, slots := #[], vm := .none },
  { cls := 32, slots := #[], vm := .none }]
def classes : Array Class := #[k0, k1, k2, k3, k4, k5, k6, k7, k8, k9, k10, k11, k12, k13, k14, k15, k16, k17, k18, k19, k20, k21, k22, k23, k24, k25, k26, k27, k28, k29, k30, k31, k32]
def interned : List (Array UInt16 × Addr) := []
def slotsUsed : Nat := 25
def theMethod : MethodId := ⟨1, 1⟩
def args0 : Array Value := #[.int 3, .int 5, .int 5, .int 5]
def aboutOver (below : List Frame) : State where
  vm := { classes := classes, interned := interned.toArray }
  heap := heap
  slotsUsed := slotsUsed
  threads := #[{ frames := .invoking theMethod args0 :: below }]
def below0 : List Frame := [.native { method := ⟨0, 0⟩, args := #[] }]
def about1 : State := aboutOver below0
def p0 : Program := .bare "" "" ""
def e0 : Env := launch0.env 0 0 0
theorem w_frames : about1.frames = Frame.invoking theMethod args0 :: below0 := rfl
set_option maxRecDepth 65536 in
theorem w_args : argsFit about1.vm theMethod args0 = true := by decide +kernel
set_option maxRecDepth 65536 in
theorem w_heap : heapFits about1 = true := by decide +kernel
set_option maxRecDepth 65536 in
theorem w_runnable : about1.curStatus? = some .runnable := by decide +kernel
set_option maxRecDepth 65536 in
theorem w_alone : about1.alone = true := by decide +kernel
set_option maxRecDepth 65536 in
theorem w_named : about1.methodNamed? x = some theMethod := by decide +kernel
set_option maxRecDepth 65536 in
theorem w_hears : about1.hears theMethod below0 = true := by decide +kernel
set_option maxRecDepth 65536 in
theorem w_ripe : about1.ripe theMethod args0 below0 = true := by decide +kernel
theorem w_running : about1.status = .running := rfl
set_option maxRecDepth 65536 in
theorem w_room : about1.hasRoom e0.platform room_1 = true :=
  launch0.hasRoom_least _ room_1 (by decide +kernel) (by decide +kernel) (by decide +kernel) (by decide +kernel) (by decide +kernel) (by decide +kernel)
theorem allAtoms_all (ts : List Jvm.Cond) (a : Array Jvm.Value) (st : Jvm.State) : (allAtoms ts).before a st = ts.all (fun c => c.before a st) := by
  induction ts with
  | nil => rfl
  | cons c t ih =>
    show (Jvm.Cond.and c (allAtoms t)).before a st = _
    rw [Jvm.Cond.before_and, ih, List.all_cons]
def words1 : List Jvm.Cond := Jvm.Cond.code x code maxLocals ret :: tables_1
/-- a 'code' word, met by the world's own term for the bytes: nothing is compared byte by byte -/
theorem code_word {y : MethodName} {bytes : ByteArray} {mx : Nat} {rt : Option FieldType} {a : Array Value} {s : State} {m : MethodId} {meth : Method} {c : Code} (h1 : s.methodNamed? y = some m) (h2 : s.vm.method? m = some meth) (h3 : meth.code = some c) (h4 : c.code = bytes)
    (h5 : (c.maxLocals == mx && c.exceptionTable.isEmpty && decide (c.maxStack ≤ mostOperands) && decide (meth.sig.returnType = rt) && !meth.locks && decide (parseMethodDescriptor y.desc = some meth.sig)) = true) : (Jvm.Cond.code y bytes mx rt).before a s = true := by
  simp only [Bool.and_eq_true, beq_iff_eq, Bool.not_eq_true', decide_eq_true_eq] at h5
  obtain ⟨⟨⟨⟨⟨g1, g2⟩, g3⟩, g4⟩, g5⟩, g6⟩ := h5
  simp [Cond.before, Cond.holds, Cond.value, h1, h2, h3, h4, g1, g2, g3, g4, g5, g6]
def isCode : Jvm.Cond → Bool
  | .code _ _ _ _ => true
  | _ => false
theorem all_split {L : List Jvm.Cond} {P : Jvm.Cond → Bool} (h1 : L.all (fun c => isCode c || P c) = true) (h2 : ∀ c ∈ L.filter isCode, P c = true) : L.all P = true := by
  refine List.all_eq_true.mpr fun c hc => ?_
  have h := List.all_eq_true.mp h1 c hc
  rcases Bool.eq_false_or_eq_true (isCode c) with hi | hi
  · exact h2 c (List.mem_filter.mpr ⟨hc, hi⟩)
  · simpa [hi] using h
set_option maxRecDepth 65536 in
theorem w_c0 : (Jvm.Cond.code x code maxLocals ret).before args0 about1 = true := code_word (m := ⟨1, 1⟩) (meth := k1m1) (c := k1c1) (by decide +kernel) rfl rfl rfl (by decide +kernel)
set_option maxRecDepth 65536 in
theorem w_c1 : (Jvm.Cond.code ({ cls := "java/util/ArrayList", name := "<init>", desc := "()V" } : Jvm.MethodName) jdk_38_method_2_code (1 : Nat) (Option.none : Option Jvm.ClassFile.FieldType)).before args0 about1 = true := code_word (m := ⟨15, 0⟩) (meth := k15m0) (c := k15c0) (by decide +kernel) rfl rfl rfl (by decide +kernel)
set_option maxRecDepth 65536 in
theorem w_c2 : (Jvm.Cond.code ({ cls := "java/util/AbstractList", name := "<init>", desc := "()V" } : Jvm.MethodName) jdk_39_method_1_code (1 : Nat) (Option.none : Option Jvm.ClassFile.FieldType)).before args0 about1 = true := code_word (m := ⟨12, 0⟩) (meth := k12m0) (c := k12c0) (by decide +kernel) rfl rfl rfl (by decide +kernel)
set_option maxRecDepth 65536 in
theorem w_c3 : (Jvm.Cond.code ({ cls := "java/util/AbstractCollection", name := "<init>", desc := "()V" } : Jvm.MethodName) jdk_22_method_1_code (1 : Nat) (Option.none : Option Jvm.ClassFile.FieldType)).before args0 about1 = true := code_word (m := ⟨9, 0⟩) (meth := k9m0) (c := k9c0) (by decide +kernel) rfl rfl rfl (by decide +kernel)
set_option maxRecDepth 65536 in
theorem w_c4 : (Jvm.Cond.code ({ cls := "java/lang/Object", name := "<init>", desc := "()V" } : Jvm.MethodName) object_method_1_code (1 : Nat) (Option.none : Option Jvm.ClassFile.FieldType)).before args0 about1 = true := code_word (m := ⟨0, 0⟩) (meth := k0m0) (c := k0c0) (by decide +kernel) rfl rfl rfl (by decide +kernel)
set_option maxRecDepth 65536 in
theorem w_c5 : (Jvm.Cond.code ({ cls := "java/lang/String", name := "valueOf", desc := "(C)Ljava/lang/String;" } : Jvm.MethodName) jdk_42_method_139_code (1 : Nat) (Option.some (Jvm.ClassFile.FieldType.object "java/lang/String"))).before args0 about1 = true := code_word (m := ⟨18, 2⟩) (meth := k18m2) (c := k18c2) (by decide +kernel) rfl rfl rfl (by decide +kernel)
set_option maxRecDepth 65536 in
theorem w_c6 : (Jvm.Cond.code ({ cls := "java/lang/StringLatin1", name := "canEncode", desc := "(C)Z" } : Jvm.MethodName) jdk_43_method_3_code (1 : Nat) (Option.some Jvm.ClassFile.FieldType.boolean)).before args0 about1 = true := code_word (m := ⟨19, 1⟩) (meth := k19m1) (c := k19c1) (by decide +kernel) rfl rfl rfl (by decide +kernel)
set_option maxRecDepth 65536 in
theorem w_c7 : (Jvm.Cond.code ({ cls := "java/lang/StringLatin1", name := "toBytes", desc := "(C)[B" } : Jvm.MethodName) jdk_43_method_46_code (1 : Nat) (Option.some (Jvm.ClassFile.FieldType.array Jvm.ClassFile.FieldType.byte))).before args0 about1 = true := code_word (m := ⟨19, 2⟩) (meth := k19m2) (c := k19c2) (by decide +kernel) rfl rfl rfl (by decide +kernel)
set_option maxRecDepth 65536 in
theorem w_c8 : (Jvm.Cond.code ({ cls := "java/lang/String", name := "<init>", desc := "([BB)V" } : Jvm.MethodName) jdk_42_method_151_code (3 : Nat) (Option.none : Option Jvm.ClassFile.FieldType)).before args0 about1 = true := code_word (m := ⟨18, 4⟩) (meth := k18m4) (c := k18c4) (by decide +kernel) rfl rfl rfl (by decide +kernel)
set_option maxRecDepth 65536 in
theorem w_c9 : (Jvm.Cond.code ({ cls := "java/util/ArrayList", name := "add", desc := "(Ljava/lang/Object;)Z" } : Jvm.MethodName) jdk_38_method_25_code (2 : Nat) (Option.some Jvm.ClassFile.FieldType.boolean)).before args0 about1 = true := code_word (m := ⟨15, 4⟩) (meth := k15m4) (c := k15c4) (by decide +kernel) rfl rfl rfl (by decide +kernel)
set_option maxRecDepth 65536 in
theorem w_c10 : (Jvm.Cond.code ({ cls := "java/util/ArrayList", name := "add", desc := "(Ljava/lang/Object;[Ljava/lang/Object;I)V" } : Jvm.MethodName) jdk_38_method_24_code (4 : Nat) (Option.none : Option Jvm.ClassFile.FieldType)).before args0 about1 = true := code_word (m := ⟨15, 3⟩) (meth := k15m3) (c := k15c3) (by decide +kernel) rfl rfl rfl (by decide +kernel)
set_option maxRecDepth 65536 in
theorem w_c11 : (Jvm.Cond.code ({ cls := "java/util/ArrayList", name := "grow", desc := "()[Ljava/lang/Object;" } : Jvm.MethodName) jdk_38_method_7_code (1 : Nat) (Option.some (Jvm.ClassFile.FieldType.array (Jvm.ClassFile.FieldType.object "java/lang/Object")))).before args0 about1 = true := code_word (m := ⟨15, 2⟩) (meth := k15m2) (c := k15c2) (by decide +kernel) rfl rfl rfl (by decide +kernel)
set_option maxRecDepth 65536 in
theorem w_c12 : (Jvm.Cond.code ({ cls := "java/util/ArrayList", name := "grow", desc := "(I)[Ljava/lang/Object;" } : Jvm.MethodName) jdk_38_method_6_code (4 : Nat) (Option.some (Jvm.ClassFile.FieldType.array (Jvm.ClassFile.FieldType.object "java/lang/Object")))).before args0 about1 = true := code_word (m := ⟨15, 1⟩) (meth := k15m1) (c := k15c1) (by decide +kernel) rfl rfl rfl (by decide +kernel)
set_option maxRecDepth 65536 in
theorem w_c13 : (Jvm.Cond.code ({ cls := "java/lang/Math", name := "max", desc := "(II)I" } : Jvm.MethodName) jdk_29_method_65_code (2 : Nat) (Option.some Jvm.ClassFile.FieldType.int)).before args0 about1 = true := code_word (m := ⟨20, 1⟩) (meth := k20m1) (c := k20c1) (by decide +kernel) rfl rfl rfl (by decide +kernel)
set_option maxRecDepth 65536 in
theorem w_c14 : (Jvm.Cond.code ({ cls := "com/example/secondkey/secondkey/config/Config$User", name := "<init>", desc := "(Ljava/lang/String;Ljava/lang/String;Ljava/util/List;Ljava/lang/String;Lcom/example/secondkey/secondkey/config/Config$SecondFactor;)V" } : Jvm.MethodName) prog_8_method_1_code (6 : Nat) (Option.none : Option Jvm.ClassFile.FieldType)).before args0 about1 = true := code_word (m := ⟨22, 0⟩) (meth := k22m0) (c := k22c0) (by decide +kernel) rfl rfl rfl (by decide +kernel)
set_option maxRecDepth 65536 in
theorem w_c15 : (Jvm.Cond.code ({ cls := "java/lang/Record", name := "<init>", desc := "()V" } : Jvm.MethodName) jdk_30_method_1_code (1 : Nat) (Option.none : Option Jvm.ClassFile.FieldType)).before args0 about1 = true := code_word (m := ⟨21, 0⟩) (meth := k21m0) (c := k21c0) (by decide +kernel) rfl rfl rfl (by decide +kernel)
set_option maxRecDepth 65536 in
theorem w_c16 : (Jvm.Cond.code ({ cls := "com/example/secondkey/secondkey/config/Config$User", name := "owesSecondFactor", desc := "(Z)Z" } : Jvm.MethodName) prog_8_method_3_code (2 : Nat) (Option.some Jvm.ClassFile.FieldType.boolean)).before args0 about1 = true := code_word (m := ⟨22, 2⟩) (meth := k22m2) (c := k22c2) (by decide +kernel) rfl rfl rfl (by decide +kernel)
set_option maxRecDepth 65536 in
theorem w_c17 : (Jvm.Cond.code ({ cls := "com/example/secondkey/secondkey/config/Config$User", name := "enrolled", desc := "()Z" } : Jvm.MethodName) prog_8_method_2_code (1 : Nat) (Option.some Jvm.ClassFile.FieldType.boolean)).before args0 about1 = true := code_word (m := ⟨22, 1⟩) (meth := k22m1) (c := k22c1) (by decide +kernel) rfl rfl rfl (by decide +kernel)
set_option maxRecDepth 65536 in
theorem w_c18 : (Jvm.Cond.code ({ cls := "java/lang/String", name := "<init>", desc := "([C)V" } : Jvm.MethodName) jdk_42_method_3_code (2 : Nat) (Option.none : Option Jvm.ClassFile.FieldType)).before args0 about1 = true := code_word (m := ⟨18, 1⟩) (meth := k18m1) (c := k18c1) (by decide +kernel) rfl rfl rfl (by decide +kernel)
set_option maxRecDepth 65536 in
theorem w_c19 : (Jvm.Cond.code ({ cls := "java/lang/String", name := "<init>", desc := "([CIILjava/lang/Void;)V" } : Jvm.MethodName) jdk_42_method_149_code (6 : Nat) (Option.none : Option Jvm.ClassFile.FieldType)).before args0 about1 = true := code_word (m := ⟨18, 3⟩) (meth := k18m3) (c := k18c3) (by decide +kernel) rfl rfl rfl (by decide +kernel)
set_option maxRecDepth 65536 in
theorem w_c20 : (Jvm.Cond.code ({ cls := "java/lang/StringUTF16", name := "compress", desc := "([CII)[B" } : Jvm.MethodName) jdk_52_method_16_code (6 : Nat) (Option.some (Jvm.ClassFile.FieldType.array Jvm.ClassFile.FieldType.byte))).before args0 about1 = true := code_word (m := ⟨23, 2⟩) (meth := k23m2) (c := k23c2) (by decide +kernel) rfl rfl rfl (by decide +kernel)
set_option maxRecDepth 65536 in
theorem w_c21 : (Jvm.Cond.code ({ cls := "java/lang/StringUTF16", name := "compress", desc := "([CI[BII)I" } : Jvm.MethodName) jdk_52_method_21_code (7 : Nat) (Option.some Jvm.ClassFile.FieldType.int)).before args0 about1 = true := code_word (m := ⟨23, 3⟩) (meth := k23m3) (c := k23c3) (by decide +kernel) rfl rfl rfl (by decide +kernel)
set_option maxRecDepth 65536 in
theorem w_c22 : (Jvm.Cond.code ({ cls := "java/lang/StringUTF16", name := "coderFromArrayLen", desc := "([BI)B" } : Jvm.MethodName) jdk_52_method_15_code (2 : Nat) (Option.some Jvm.ClassFile.FieldType.byte)).before args0 about1 = true := code_word (m := ⟨23, 1⟩) (meth := k23m1) (c := k23c1) (by decide +kernel) rfl rfl rfl (by decide +kernel)
def codes1 : List Jvm.Cond := [Jvm.Cond.code x code maxLocals ret, Jvm.Cond.code ({ cls := "java/util/ArrayList", name := "<init>", desc := "()V" } : Jvm.MethodName) jdk_38_method_2_code (1 : Nat) (Option.none : Option Jvm.ClassFile.FieldType), Jvm.Cond.code ({ cls := "java/util/AbstractList", name := "<init>", desc := "()V" } : Jvm.MethodName) jdk_39_method_1_code (1 : Nat) (Option.none : Option Jvm.ClassFile.FieldType), Jvm.Cond.code ({ cls := "java/util/AbstractCollection", name := "<init>", desc := "()V" } : Jvm.MethodName) jdk_22_method_1_code (1 : Nat) (Option.none : Option Jvm.ClassFile.FieldType), Jvm.Cond.code ({ cls := "java/lang/Object", name := "<init>", desc := "()V" } : Jvm.MethodName) object_method_1_code (1 : Nat) (Option.none : Option Jvm.ClassFile.FieldType), Jvm.Cond.code ({ cls := "java/lang/String", name := "valueOf", desc := "(C)Ljava/lang/String;" } : Jvm.MethodName) jdk_42_method_139_code (1 : Nat) (Option.some (Jvm.ClassFile.FieldType.object "java/lang/String")), Jvm.Cond.code ({ cls := "java/lang/StringLatin1", name := "canEncode", desc := "(C)Z" } : Jvm.MethodName) jdk_43_method_3_code (1 : Nat) (Option.some Jvm.ClassFile.FieldType.boolean), Jvm.Cond.code ({ cls := "java/lang/StringLatin1", name := "toBytes", desc := "(C)[B" } : Jvm.MethodName) jdk_43_method_46_code (1 : Nat) (Option.some (Jvm.ClassFile.FieldType.array Jvm.ClassFile.FieldType.byte)), Jvm.Cond.code ({ cls := "java/lang/String", name := "<init>", desc := "([BB)V" } : Jvm.MethodName) jdk_42_method_151_code (3 : Nat) (Option.none : Option Jvm.ClassFile.FieldType), Jvm.Cond.code ({ cls := "java/util/ArrayList", name := "add", desc := "(Ljava/lang/Object;)Z" } : Jvm.MethodName) jdk_38_method_25_code (2 : Nat) (Option.some Jvm.ClassFile.FieldType.boolean), Jvm.Cond.code ({ cls := "java/util/ArrayList", name := "add", desc := "(Ljava/lang/Object;[Ljava/lang/Object;I)V" } : Jvm.MethodName) jdk_38_method_24_code (4 : Nat) (Option.none : Option Jvm.ClassFile.FieldType), Jvm.Cond.code ({ cls := "java/util/ArrayList", name := "grow", desc := "()[Ljava/lang/Object;" } : Jvm.MethodName) jdk_38_method_7_code (1 : Nat) (Option.some (Jvm.ClassFile.FieldType.array (Jvm.ClassFile.FieldType.object "java/lang/Object"))), Jvm.Cond.code ({ cls := "java/util/ArrayList", name := "grow", desc := "(I)[Ljava/lang/Object;" } : Jvm.MethodName) jdk_38_method_6_code (4 : Nat) (Option.some (Jvm.ClassFile.FieldType.array (Jvm.ClassFile.FieldType.object "java/lang/Object"))), Jvm.Cond.code ({ cls := "java/lang/Math", name := "max", desc := "(II)I" } : Jvm.MethodName) jdk_29_method_65_code (2 : Nat) (Option.some Jvm.ClassFile.FieldType.int), Jvm.Cond.code ({ cls := "com/example/secondkey/secondkey/config/Config$User", name := "<init>", desc := "(Ljava/lang/String;Ljava/lang/String;Ljava/util/List;Ljava/lang/String;Lcom/example/secondkey/secondkey/config/Config$SecondFactor;)V" } : Jvm.MethodName) prog_8_method_1_code (6 : Nat) (Option.none : Option Jvm.ClassFile.FieldType), Jvm.Cond.code ({ cls := "java/lang/Record", name := "<init>", desc := "()V" } : Jvm.MethodName) jdk_30_method_1_code (1 : Nat) (Option.none : Option Jvm.ClassFile.FieldType), Jvm.Cond.code ({ cls := "com/example/secondkey/secondkey/config/Config$User", name := "owesSecondFactor", desc := "(Z)Z" } : Jvm.MethodName) prog_8_method_3_code (2 : Nat) (Option.some Jvm.ClassFile.FieldType.boolean), Jvm.Cond.code ({ cls := "com/example/secondkey/secondkey/config/Config$User", name := "enrolled", desc := "()Z" } : Jvm.MethodName) prog_8_method_2_code (1 : Nat) (Option.some Jvm.ClassFile.FieldType.boolean), Jvm.Cond.code ({ cls := "java/lang/String", name := "<init>", desc := "([C)V" } : Jvm.MethodName) jdk_42_method_3_code (2 : Nat) (Option.none : Option Jvm.ClassFile.FieldType), Jvm.Cond.code ({ cls := "java/lang/String", name := "<init>", desc := "([CIILjava/lang/Void;)V" } : Jvm.MethodName) jdk_42_method_149_code (6 : Nat) (Option.none : Option Jvm.ClassFile.FieldType), Jvm.Cond.code ({ cls := "java/lang/StringUTF16", name := "compress", desc := "([CII)[B" } : Jvm.MethodName) jdk_52_method_16_code (6 : Nat) (Option.some (Jvm.ClassFile.FieldType.array Jvm.ClassFile.FieldType.byte)), Jvm.Cond.code ({ cls := "java/lang/StringUTF16", name := "compress", desc := "([CI[BII)I" } : Jvm.MethodName) jdk_52_method_21_code (7 : Nat) (Option.some Jvm.ClassFile.FieldType.int), Jvm.Cond.code ({ cls := "java/lang/StringUTF16", name := "coderFromArrayLen", desc := "([BI)B" } : Jvm.MethodName) jdk_52_method_15_code (2 : Nat) (Option.some Jvm.ClassFile.FieldType.byte)]
set_option maxRecDepth 65536 in
theorem codes_eq : words1.filter isCode = codes1 := rfl
theorem w_codes : ∀ c ∈ words1.filter isCode, c.before args0 about1 = true := by
  rw [codes_eq]
  intro c hc
  simp only [codes1, List.mem_cons, List.not_mem_nil, or_false] at hc
  rcases hc with rfl | rfl | rfl | rfl | rfl | rfl | rfl | rfl | rfl | rfl | rfl | rfl | rfl | rfl | rfl | rfl | rfl | rfl | rfl | rfl | rfl | rfl | rfl
  · exact w_c0
  · exact w_c1
  · exact w_c2
  · exact w_c3
  · exact w_c4
  · exact w_c5
  · exact w_c6
  · exact w_c7
  · exact w_c8
  · exact w_c9
  · exact w_c10
  · exact w_c11
  · exact w_c12
  · exact w_c13
  · exact w_c14
  · exact w_c15
  · exact w_c16
  · exact w_c17
  · exact w_c18
  · exact w_c19
  · exact w_c20
  · exact w_c21
  · exact w_c22
set_option maxRecDepth 65536 in
theorem w_t1 : (words1.take 24).all (fun c => isCode c || c.before args0 about1) = true := by decide +kernel
set_option maxRecDepth 65536 in
theorem w_t2 : ((words1.drop 24).take 24).all (fun c => isCode c || c.before args0 about1) = true := by decide +kernel
set_option maxRecDepth 65536 in
theorem w_t3 : (((words1.drop 24).drop 24).take 24).all (fun c => isCode c || c.before args0 about1) = true := by decide +kernel
set_option maxRecDepth 65536 in
theorem w_t4 : ((((words1.drop 24).drop 24).drop 24).take 24).all (fun c => isCode c || c.before args0 about1) = true := by decide +kernel
set_option maxRecDepth 65536 in
theorem w_t5 : (((((words1.drop 24).drop 24).drop 24).drop 24).take 24).all (fun c => isCode c || c.before args0 about1) = true := by decide +kernel
set_option maxRecDepth 65536 in
theorem w_t6 : (((((words1.drop 24).drop 24).drop 24).drop 24).drop 24).all (fun c => isCode c || c.before args0 about1) = true := by decide +kernel
theorem w_tables : (allAtoms (Jvm.Cond.code x code maxLocals ret :: tables_1)).before args0 about1 = true := by
  rw [allAtoms_all]
  show words1.all (fun c => c.before args0 about1) = true
  refine all_split ?_ w_codes
  rw [← List.take_append_drop 24 words1, List.all_append, w_t1, ← List.take_append_drop 24 (words1.drop 24), List.all_append, w_t2, ← List.take_append_drop 24 ((words1.drop 24).drop 24), List.all_append, w_t3, ← List.take_append_drop 24 (((words1.drop 24).drop 24).drop 24), List.all_append, w_t4, ← List.take_append_drop 24 ((((words1.drop 24).drop 24).drop 24).drop 24), List.all_append, w_t5, w_t6]
  rfl
set_option maxRecDepth 65536 in
theorem w_rest : rest_1_c.before args0 about1 = true := by decide +kernel
set_option maxRecDepth 65536 in
theorem w_case : (Jvm.Cond.and given_1 narrow_1).before args0 about1 = true := by decide +kernel
theorem w_applies : (headSpec (Jvm.Cond.code x code maxLocals ret :: tables_1) room_1).applies x e0.platform about1 = true :=
  (Spec.applies_iff w_frames).mpr ⟨w_running, w_runnable, w_alone, w_named, w_hears, w_ripe, w_room, w_tables⟩
theorem atStart : AtStart classFile x code maxLocals ret World_1 tables_1 room_1 Calls_1 rest_1 Pre_1 launch0 p0 e0 about1 theMethod args0 below0 :=
  ⟨lists_1, trivial, launch0.admits_env _ _ _, launch0.least_env, fairChoices_fair.cas, fairChoices_fair.clock, w_frames, w_args, w_heap, w_applies, trivial, w_rest, w_case⟩
end start1
theorem witness_1 : WitnessClaimed_1 := ⟨start1.p0, start1.e0, start1.about1, start1.theMethod, start1.args0, start1.below0, start1.atStart⟩
end Jvm.Pilot.@@N@@
