import JvmDerived
import JvmDerived.Pilot.@@N@@Statement
import JvmDerived.Pilot.@@N@@Code
set_option linter.unusedVariables false
set_option linter.unusedSimpArgs false
/- laws to paste: Road.backV, Road.codOf, Road.lenW, Road.chN (cut by pick.py; bodies as the Statement names them) -/
namespace Jvm.Pilot.@@N@@
namespace StrChars
open Jvm Sem ClassFile Op Lib Jvm.Stand Jvm.Free.XT Jvm.Free.ALB Jvm.Free.JM Jvm.Free
open Jvm.Lib.Cold (StaticIs)
/-- a char array whose places are chars -/
def Ch (a : Addr) (A : Cell) (U : State) : Prop := Arr .char a A U ∧ Typed .char A
theorem Ch.mv {a : Addr} {A : Cell} {U U' : State} (h : Ch a A U) (hal : U.vm.Alike U'.vm) (hh : U'.heap = U.heap) : Ch a A U' := ⟨h.1.mv hal hh, h.2⟩
theorem Ch.keep {a : Addr} {A : Cell} {U U' : State} (h : Ch a A U) (hal : U.vm.Alike U'.vm) (hk : U'.heap[a]? = some A) : Ch a A U' := ⟨h.1.keep hal hk, h.2⟩
/-- what place i of a char[]'s cell holds -/
def cv (A : Cell) (i : Nat) : Int32 := match A.slots[i]? with | some (.int x) => x | _ => 0
theorem Ch.get {a : Addr} {A : Cell} {U : State} (h : Ch a A U) {i : Nat} (hi : i < A.slots.size) : A.slots[i]? = some (.int (cv A i)) := by
  have e := Array.getElem?_eq_getElem hi
  have f := h.2 i _ e
  unfold cv; rw [e]
  generalize A.slots[i] = v at f
  cases v <;> simp [fits] at f ⊢
/-- the byte that i2b leaves of a char -/
def lo8 (x : Int32) : Int32 := x.toInt8.toInt32
theorem fits_lo8 (y : Int32) : fits .byte (.int (lo8 y)) = true := by
  have h1 := y.toInt8.le_toInt
  have h2 := y.toInt8.toInt_lt
  simp only [lo8, fits, Bool.and_eq_true, decide_eq_true_eq, Int32.le_iff_toInt_le, Int8.toInt_toInt32, show (-128 : Int32).toInt = -128 from by decide, show (127 : Int32).toInt = 127 from by decide]
  omega
/-- A' is A but that each place j of lo .. hi - 1 holds f j -/
def Laid (A A' : Cell) (lo hi : Nat) (f : Nat → Value) : Prop := A'.cls = A.cls ∧ A'.vm = A.vm ∧ A'.slots.size = A.slots.size ∧ ∀ i, A'.slots[i]? = if lo ≤ i ∧ i < hi then some (f i) else A.slots[i]?
theorem Laid.zero (A : Cell) (lo : Nat) (f : Nat → Value) : Laid A A lo (lo + 0) f := ⟨rfl, rfl, rfl, fun i => by rw [if_neg (by omega)]⟩
theorem Laid.step {A Ak : Cell} {lo k : Nat} {f : Nat → Value} {v : Value} (h : Laid A Ak lo k f) (hlo : lo ≤ k) (hk : k < Ak.slots.size) (hv : v = f k) : Laid A (Ak.setSlot k v) lo (k + 1) f := by
  refine ⟨h.1, h.2.1, by simpa [Cell.setSlot] using h.2.2.1, fun i => ?_⟩
  by_cases e : k = i
  · subst e; rw [Cell.slots_setSlot_self v hk, if_pos (by omega), hv]
  · rw [Cell.slots_setSlot_ne v e, h.2.2.2 i]
    by_cases q : lo ≤ i ∧ i < k
    · rw [if_pos q, if_pos (by omega)]
    · rw [if_neg q, if_neg (by omega)]
def U16 : String := "java/lang/StringUTF16"
namespace Cmp5
def yN : MethodName := ⟨"java/lang/StringUTF16", "compress", "([CI[BII)I"⟩
abbrev yB : ByteArray := jdk_52_method_21_code
theorem d0 : decode yB 0 = .ok (.iconst 0, 1) := by decide +kernel
theorem d1 : decode yB 1 = .ok (.istore 5, 2) := by decide +kernel
theorem d3 : decode yB 3 = .ok (.iload 5, 2) := by decide +kernel
theorem d5 : decode yB 5 = .ok (.iload 4, 2) := by decide +kernel
theorem d7 : decode yB 7 = .ok (.if_icmp (.ge) 37, 3) := by decide +kernel
theorem d10 : decode yB 10 = .ok (.aload_n 0, 1) := by decide +kernel
theorem d11 : decode yB 11 = .ok (.iload_n 1, 1) := by decide +kernel
theorem d12 : decode yB 12 = .ok (.caload, 1) := by decide +kernel
theorem d13 : decode yB 13 = .ok (.istore 6, 2) := by decide +kernel
theorem d15 : decode yB 15 = .ok (.iload 6, 2) := by decide +kernel
theorem d17 : decode yB 17 = .ok (.sipush 255, 3) := by decide +kernel
theorem d20 : decode yB 20 = .ok (.if_icmp (.le) 6, 3) := by decide +kernel
theorem d26 : decode yB 26 = .ok (.aload_n 2, 1) := by decide +kernel
theorem d27 : decode yB 27 = .ok (.iload_n 3, 1) := by decide +kernel
theorem d28 : decode yB 28 = .ok (.iload 6, 2) := by decide +kernel
theorem d30 : decode yB 30 = .ok (.i2b, 1) := by decide +kernel
theorem d31 : decode yB 31 = .ok (.bastore, 1) := by decide +kernel
theorem d32 : decode yB 32 = .ok (.iinc 1 1, 3) := by decide +kernel
theorem d35 : decode yB 35 = .ok (.iinc 3 1, 3) := by decide +kernel
theorem d38 : decode yB 38 = .ok (.iinc 5 1, 3) := by decide +kernel
theorem d41 : decode yB 41 = .ok (.goto (-38), 3) := by decide +kernel
theorem d44 : decode yB 44 = .ok (.iload 4, 2) := by decide +kernel
theorem d46 : decode yB 46 = .ok (.ireturn, 1) := by decide +kernel
def site : List Cond := []
def tab : Cond := tabOf yN yB 7 (some .int) site
def P (b : Addr) (A : Cell) (d : Addr) (B : Cell) (o q len : Nat) (args : Array Value) (s : State) : Prop := args = #[.ref b, .int (Int32.ofNat o), .ref d, .int (Int32.ofNat q), .int (Int32.ofNat len)] ∧ Ch b A s ∧ Arr .byte d B s ∧ b ≠ d ∧ o + len ≤ A.slots.size ∧ q + len ≤ B.slots.size ∧ ∀ i, i < len → ¬ 255 < cv A (o + i)
def E (b : Addr) (A : Cell) (d : Addr) (B : Cell) (o q len : Nat) (r : Option Value) (s u : State) : Prop := r = some (.int (Int32.ofNat len)) ∧ ∃ B', Put d B' s u ∧ Laid B B' q (q + len) (fun j => Value.int (lo8 (cv A (o + (j - q)))))
/-- no char of the range above 255: len; the places written hold each char's low byte -/
theorem law (l : Launch) (b : Addr) (A : Cell) (d : Addr) (B : Cell) (o q len : Nat) : Law l yN 5 5 0 0 yB 7 (some .int) site (P b A d B o q len) (E b A d B o q len) (copyLocs d q len) 0 0 := by
  refine Law.of_walk (plainFor_of_name (by decide +kernel)) (by decide +kernel) (by decide +kernel) (by decide) (fun _ _ h => by rw [h.1]; rfl) (fun _ U U' hal hh h => ⟨h.1, h.2.1.mv hal hh, h.2.2.1.mv hal hh, h.2.2.2⟩) (fun r U U' V V' h1 hal h2 h => ⟨h.1, h.2.elim fun B' q => ⟨B', q.1.mv h1 h2, q.2⟩⟩) ?_
  intro p e s m args below meth c s₁ X0 hexec hbytes hml hret hlk hnm hown hh0 W hP
  obtain ⟨rfl, hA, hB, hne, l1, l2, hp⟩ := hP
  have c1 : Steps p.tables e below (s₁.setTop (entryFrame m #[.ref b, .int (Int32.ofNat o), .ref d, .int (Int32.ofNat q), .int (Int32.ofNat len)] 7)) (s₁.setTop (mkF m 0 #[.val (.ref b), .val (.int (Int32.ofNat o)), .val (.ref d), .val (.int (Int32.ofNat q)), .val (.int (Int32.ofNat len)), .unset, .unset] [])) := entry rfl
  have hA0 := hA.1.mv X0.warmed.alike hh0
  have hB0 := hB.mv X0.warmed.alike hh0
  have a31 := hA.1.2.2.2
  have c2 : Steps p.tables e below (s₁.setTop (entryFrame m #[.ref b, .int (Int32.ofNat o), .ref d, .int (Int32.ofNat q), .int (Int32.ofNat len)] 7)) (s₁.setTop (mkF m 3 #[.val (.ref b), .val (.int (Int32.ofNat o)), .val (.ref d), .val (.int (Int32.ofNat q)), .val (.int (Int32.ofNat len)), .val (.int 0), .unset] [])) := c1.trans (by
    refine iconstV X0.here hexec rfl 0 (hb hbytes d0) (by decide) ?_
    refine XS.istore X0.here hexec rfl (hb hbytes d1) rfl rfl ?_
    exact Steps.refl _)
  have loop : ∀ (r i : Nat), i + r = len → ∀ (z : Slot), (z = .unset ∨ ∃ w, z = .val w ∧ w.category = 1) → ∀ (Tl : State) (Bk : Cell), Stand p l e { frames := 0, locals := 0, cells := 0, slots := 0 } s m #[.ref b, .int (Int32.ofNat o), .ref d, .int (Int32.ofNat q), .int (Int32.ofNat len)] below meth c Tl ([] ++ copyLocs d q i) 0 0 → Put d Bk s₁ Tl → Laid B Bk q (q + i) (fun j => Value.int (lo8 (cv A (o + (j - q))))) →
      Steps p.tables e below (s₁.setTop (entryFrame m #[.ref b, .int (Int32.ofNat o), .ref d, .int (Int32.ofNat q), .int (Int32.ofNat len)] 7)) (Tl.setTop (mkF m 3 #[.val (.ref b), .val (.int (Int32.ofNat (o + i))), .val (.ref d), .val (.int (Int32.ofNat (q + i))), .val (.int (Int32.ofNat len)), .val (.int (Int32.ofNat i)), z] [])) → ∃ (T' : State) (B' : Cell) (z' : Slot), Stand p l e { frames := 0, locals := 0, cells := 0, slots := 0 } s m #[.ref b, .int (Int32.ofNat o), .ref d, .int (Int32.ofNat q), .int (Int32.ofNat len)] below meth c T' ([] ++ copyLocs d q len) 0 0 ∧ Put d B' s₁ T' ∧ Laid B B' q (q + len) (fun j => Value.int (lo8 (cv A (o + (j - q))))) ∧
      Steps p.tables e below (s₁.setTop (entryFrame m #[.ref b, .int (Int32.ofNat o), .ref d, .int (Int32.ofNat q), .int (Int32.ofNat len)] 7)) (T'.setTop (mkF m 3 #[.val (.ref b), .val (.int (Int32.ofNat (o + len))), .val (.ref d), .val (.int (Int32.ofNat (q + len))), .val (.int (Int32.ofNat len)), .val (.int (Int32.ofNat len)), z'] [])) := by
    intro r
    induction r with
    | zero =>
      intro i hi z hz Tl Bk Xl pl fl cl
      have hil : i = len := by omega
      rw [hil] at Xl fl cl
      exact ⟨Tl, Bk, z, Xl, pl, fl, cl⟩
    | succ r ih =>
      intro i hi z hz Tl Bk Xl pl fl cl
      have all := X0.warmed.alike.symm.trans Xl.warmed.alike
      have hAl := hA0.keep all (pl.other hne hA0.1)
      have hBk := hB0.like all pl.1 fl.1 fl.2.1 fl.2.2.1
      have hlt : q + i < Bk.slots.size := by rw [fl.2.2.1]; omega
      have c3 : Steps p.tables e below (s₁.setTop (entryFrame m #[.ref b, .int (Int32.ofNat o), .ref d, .int (Int32.ofNat q), .int (Int32.ofNat len)] 7)) (Tl.setTop (mkF m 12 #[.val (.ref b), .val (.int (Int32.ofNat (o + i))), .val (.ref d), .val (.int (Int32.ofNat (q + i))), .val (.int (Int32.ofNat len)), .val (.int (Int32.ofNat i)), z] [.int (Int32.ofNat (o + i)), .ref b])) := cl.trans (by
        refine XS.iload Xl.here hexec rfl (hb hbytes d3) rfl ?_
        refine XS.iload Xl.here hexec rfl (hb hbytes d5) rfl ?_
        refine XS.icmpNo Xl.here hexec rfl (hb hbytes d7) rfl (ii_ge_f (lt32 (by omega) (by omega))) ?_
        refine XS.aloadN Xl.here hexec rfl (hb hbytes d10) rfl rfl ?_
        refine XS.iloadN Xl.here hexec rfl (hb hbytes d11) rfl ?_
        exact Steps.refl _)
      have c4 : Steps p.tables e below (s₁.setTop (entryFrame m #[.ref b, .int (Int32.ofNat o), .ref d, .int (Int32.ofNat q), .int (Int32.ofNat len)] 7)) (Tl.setTop (mkF m 13 #[.val (.ref b), .val (.int (Int32.ofNat (o + i))), .val (.ref d), .val (.int (Int32.ofNat (q + i))), .val (.int (Int32.ofNat len)), .val (.int (Int32.ofNat i)), z] [.int (cv A (o + i))])) := c3.trans (by
        refine Xl.aget hexec hAl rfl (hA.get (i := o + i) (by omega)) rfl rfl (hb hbytes d12) ?_
        exact Steps.refl _)
      have c5 : Steps p.tables e below (s₁.setTop (entryFrame m #[.ref b, .int (Int32.ofNat o), .ref d, .int (Int32.ofNat q), .int (Int32.ofNat len)] 7)) (Tl.setTop (mkF m 15 #[.val (.ref b), .val (.int (Int32.ofNat (o + i))), .val (.ref d), .val (.int (Int32.ofNat (q + i))), .val (.int (Int32.ofNat len)), .val (.int (Int32.ofNat i)), .val (.int (cv A (o + i)))] [])) := c4.trans (by
        refine XS.istoreS Xl.here hexec rfl (hb hbytes d13) rfl rfl hz ?_
        exact Steps.refl _)
      have c6 : Steps p.tables e below (s₁.setTop (entryFrame m #[.ref b, .int (Int32.ofNat o), .ref d, .int (Int32.ofNat q), .int (Int32.ofNat len)] 7)) (Tl.setTop (mkF m 31 #[.val (.ref b), .val (.int (Int32.ofNat (o + i))), .val (.ref d), .val (.int (Int32.ofNat (q + i))), .val (.int (Int32.ofNat len)), .val (.int (Int32.ofNat i)), .val (.int (cv A (o + i)))] [.int (lo8 (cv A (o + i))), .int (Int32.ofNat (q + i)), .ref d])) := c5.trans (by
        refine XS.iload Xl.here hexec rfl (hb hbytes d15) rfl ?_
        refine sipushV Xl.here hexec rfl 255 (hb hbytes d17) (by decide) ?_
        refine XS.icmpYes Xl.here hexec rfl (pc0 := 20) rfl (hb hbytes d20) rfl (ii_le_t (hp i (by omega))) (by decide) rfl ?_
        refine XS.aloadN Xl.here hexec rfl (hb hbytes d26) rfl rfl ?_
        refine XS.iloadN Xl.here hexec rfl (hb hbytes d27) rfl ?_
        refine XS.iload Xl.here hexec rfl (hb hbytes d28) rfl ?_
        refine i2b Xl.here hexec rfl (hb hbytes d30) rfl ?_
        exact Steps.refl _)
      obtain ⟨T7, X7, p7, st7⟩ := Xl.aput hexec hBk rfl hlt rfl (fits_lo8 (cv A (o + i))) (g := (mkF m 31 #[.val (.ref b), .val (.int (Int32.ofNat (o + i))), .val (.ref d), .val (.int (Int32.ofNat (q + i))), .val (.int (Int32.ofNat len)), .val (.int (Int32.ofNat i)), .val (.int (cv A (o + i)))] [.int (lo8 (cv A (o + i))), .int (Int32.ofNat (q + i)), .ref d])) rfl (rest := []) rfl (hb hbytes d31)
      have c8 : Steps p.tables e below (s₁.setTop (entryFrame m #[.ref b, .int (Int32.ofNat o), .ref d, .int (Int32.ofNat q), .int (Int32.ofNat len)] 7)) (T7.setTop (mkF m 32 #[.val (.ref b), .val (.int (Int32.ofNat (o + i))), .val (.ref d), .val (.int (Int32.ofNat (q + i))), .val (.int (Int32.ofNat len)), .val (.int (Int32.ofNat i)), .val (.int (cv A (o + i)))] [])) := c6.trans (st7 _ (Steps.refl _))
      have c9 : Steps p.tables e below (s₁.setTop (entryFrame m #[.ref b, .int (Int32.ofNat o), .ref d, .int (Int32.ofNat q), .int (Int32.ofNat len)] 7)) (T7.setTop (mkF m 3 #[.val (.ref b), .val (.int (Int32.ofNat (o + i) + 1)), .val (.ref d), .val (.int (Int32.ofNat (q + i) + 1)), .val (.int (Int32.ofNat len)), .val (.int (Int32.ofNat i + 1)), .val (.int (cv A (o + i)))] [])) := c8.trans (by
        refine iincV X7.here hexec rfl 1 (hb hbytes d32) (by decide) rfl rfl ?_
        refine iincV X7.here hexec rfl 1 (hb hbytes d35) (by decide) rfl rfl ?_
        refine iincV X7.here hexec rfl 1 (hb hbytes d38) (by decide) rfl rfl ?_
        refine XS.goto X7.here hexec rfl (pc0 := 41) rfl (hb hbytes d41) (by decide) rfl ?_
        exact Steps.refl _)
      have c10 : Steps p.tables e below (s₁.setTop (entryFrame m #[.ref b, .int (Int32.ofNat o), .ref d, .int (Int32.ofNat q), .int (Int32.ofNat len)] 7)) (T7.setTop (mkF m 3 #[.val (.ref b), .val (.int (Int32.ofNat (o + (i + 1)))), .val (.ref d), .val (.int (Int32.ofNat (q + (i + 1)))), .val (.int (Int32.ofNat len)), .val (.int (Int32.ofNat (i + 1))), .val (.int (cv A (o + i)))] [])) := by
        have := c9
        rw [succ32, succ32, succ32] at this
        exact this
      exact ih (i + 1) (by omega) _ (Or.inr ⟨_, rfl, rfl⟩) T7 _ (by rw [copyLocs_step, ← List.append_assoc]; exact X7) (pl.trans p7) (fl.step (by omega) hlt (by simp)) c10
  obtain ⟨T9, B9, z9, X9, p9, f9, g9⟩ := loop len 0 (by omega) .unset (Or.inl rfl) s₁ B (by simpa [copyLocs] using X0) ⟨hB0.1, fun _ _ => rfl, rfl⟩ (Laid.zero _ _ _) c2
  have c11 : Steps p.tables e below (s₁.setTop (entryFrame m #[.ref b, .int (Int32.ofNat o), .ref d, .int (Int32.ofNat q), .int (Int32.ofNat len)] 7)) (T9.setTop (mkF m 46 #[.val (.ref b), .val (.int (Int32.ofNat (o + len))), .val (.ref d), .val (.int (Int32.ofNat (q + len))), .val (.int (Int32.ofNat len)), .val (.int (Int32.ofNat len)), z9] [.int (Int32.ofNat len)])) := g9.trans (by
    refine XS.iload X9.here hexec rfl (hb hbytes d3) rfl ?_
    refine XS.iload X9.here hexec rfl (hb hbytes d5) rfl ?_
    refine XS.icmpYes X9.here hexec rfl (pc0 := 7) rfl (hb hbytes d7) rfl (ii_ge_t (nlt32 (by omega) (Nat.le_refl _))) (by decide) rfl ?_
    refine XS.iload X9.here hexec rfl (hb hbytes d44) rfl ?_
    exact Steps.refl _)
  exact ⟨T9, some (.int (Int32.ofNat len)), _, _, _, X9, by simp, rfl, rfl, (fun h => by cases h), ⟨rfl, B9, p9.from hh0, f9⟩, fun fs hl => c11.trans (X9.ireturnOut hexec hret rfl (Or.inl rfl) (hb hbytes d46) hl)⟩
end Cmp5
namespace Cmp3
def yN : MethodName := ⟨"java/lang/StringUTF16", "compress", "([CII)[B"⟩
abbrev yB : ByteArray := jdk_52_method_16_code
theorem d0 : decode yB 0 = .ok (.iload_n 2, 1) := by decide +kernel
theorem d1 : decode yB 1 = .ok (.newarray .byte, 2) := by decide +kernel
theorem d3 : decode yB 3 = .ok (.astore_n 3, 1) := by decide +kernel
theorem d4 : decode yB 4 = .ok (.aload_n 0, 1) := by decide +kernel
theorem d5 : decode yB 5 = .ok (.iload_n 1, 1) := by decide +kernel
theorem d6 : decode yB 6 = .ok (.aload_n 3, 1) := by decide +kernel
theorem d7 : decode yB 7 = .ok (.iconst 0, 1) := by decide +kernel
theorem d8 : decode yB 8 = .ok (.iload_n 2, 1) := by decide +kernel
theorem d9 : decode yB 9 = .ok (.invokestatic 115, 3) := by decide +kernel
theorem d12 : decode yB 12 = .ok (.istore 4, 2) := by decide +kernel
theorem d14 : decode yB 14 = .ok (.iload 4, 2) := by decide +kernel
theorem d16 : decode yB 16 = .ok (.iload_n 2, 1) := by decide +kernel
theorem d17 : decode yB 17 = .ok (.if_icmp (.eq) 40, 3) := by decide +kernel
theorem d57 : decode yB 57 = .ok (.aload_n 3, 1) := by decide +kernel
theorem d58 : decode yB 58 = .ok (.areturn, 1) := by decide +kernel
def site : List Cond := [.arrayClass .byte, Cmp5.tab] ++ staticW U16 115 Cmp5.yN
def tab : Cond := tabOf yN yB 6 (some (.array .byte)) site
def P (b : Addr) (A : Cell) (o len : Nat) (args : Array Value) (s : State) : Prop := args = #[.ref b, .int (Int32.ofNat o), .int (Int32.ofNat len)] ∧ Ch b A s ∧ o + len ≤ A.slots.size ∧ len ≤ 536870912 ∧ ∀ i, i < len → ¬ 255 < cv A (o + i)
def E (b : Addr) (A : Cell) (o len : Nat) (r : Option Value) (s u : State) : Prop := NewArr .byte "[B" len (fun j => .int (lo8 (cv A (o + j)))) r s u ∧ u.heap.size = s.heap.size + 1
/-- no char of the range above 255: a new byte[] of their low bytes -/
theorem law (l : Launch) (b : Addr) (A : Cell) (o len : Nat) : Law l yN 3 3 1 18 yB 6 (some (.array .byte)) site (P b A o len) (E b A o len) [] 1 len := by
  refine Law.of_walk (plainFor_of_name (by decide +kernel)) (by decide +kernel) (by decide +kernel) (by decide) (fun _ _ h => by rw [h.1]; rfl) (fun _ U U' hal hh h => ⟨h.1, h.2.1.mv hal hh, h.2.2⟩) (fun r U U' V V' h1 hal h2 h => ⟨NewArr.mv r U U' V V' h1 hal h2 h.1, by rw [h1, h2]; exact h.2⟩) ?_
  intro p e s m args below meth c s₁ X0 hexec hbytes hml hret hlk hnm hown hh0 W hP
  obtain ⟨rfl, hA, l1, l2, hp⟩ := hP
  have a31 := hA.1.2.2.2
  have c1 : Steps p.tables e below (s₁.setTop (entryFrame m #[.ref b, .int (Int32.ofNat o), .int (Int32.ofNat len)] 6)) (s₁.setTop (mkF m 0 #[.val (.ref b), .val (.int (Int32.ofNat o)), .val (.int (Int32.ofNat len)), .unset, .unset, .unset] [])) := entry rfl
  have c2 : Steps p.tables e below (s₁.setTop (entryFrame m #[.ref b, .int (Int32.ofNat o), .int (Int32.ofNat len)] 6)) (s₁.setTop (mkF m 1 #[.val (.ref b), .val (.int (Int32.ofNat o)), .val (.int (Int32.ofNat len)), .unset, .unset, .unset] [.int (Int32.ofNat len)])) := c1.trans (by
    refine XS.iloadN X0.here hexec rfl (hb hbytes d0) rfl ?_
    exact Steps.refl _)
  obtain ⟨T3, B3, X3, ba3, bs3, bv3, bh3, bf3, st3⟩ := X0.anew hexec (atype := .byte) (wk W (.arrayClass .byte)) rfl (by show len * 1 ≤ _; omega) (by omega) (g := (mkF m 1 #[.val (.ref b), .val (.int (Int32.ofNat o)), .val (.int (Int32.ofNat len)), .unset, .unset, .unset] [.int (Int32.ofNat len)])) rfl (hb hbytes d1) (rest := []) rfl (Nat.le_refl _) (by show 0 + len ≤ len; omega)
  rw [hh0] at ba3 st3
  have kp3 : XT.Kept s T3 := (XT.Kept.of_eq hh0).push bh3
  have hA3 := hA.keep X3.warmed.alike (kp3 _ _ hA.1.1)
  have hne : b ≠ s.heap.size := hA.1.ne
  have c4 : Steps p.tables e below (s₁.setTop (entryFrame m #[.ref b, .int (Int32.ofNat o), .int (Int32.ofNat len)] 6)) (T3.setTop (mkF m 3 #[.val (.ref b), .val (.int (Int32.ofNat o)), .val (.int (Int32.ofNat len)), .unset, .unset, .unset] [.ref s.heap.size])) := c2.trans (st3 _ (Steps.refl _))
  have c5 : Steps p.tables e below (s₁.setTop (entryFrame m #[.ref b, .int (Int32.ofNat o), .int (Int32.ofNat len)] 6)) (T3.setTop (mkF m 9 #[.val (.ref b), .val (.int (Int32.ofNat o)), .val (.int (Int32.ofNat len)), .val (.ref s.heap.size), .unset, .unset] [.int (Int32.ofNat len), .int 0, .ref s.heap.size, .int (Int32.ofNat o), .ref b])) := c4.trans (by
    refine XS.astoreN X3.here hexec rfl (hb hbytes d3) rfl rfl rfl ?_
    refine XS.aloadN X3.here hexec rfl (hb hbytes d4) rfl rfl ?_
    refine XS.iloadN X3.here hexec rfl (hb hbytes d5) rfl ?_
    refine XS.aloadN X3.here hexec rfl (hb hbytes d6) rfl rfl ?_
    refine iconstV X3.here hexec rfl 0 (hb hbytes d7) (by decide) ?_
    refine XS.iloadN X3.here hexec rfl (hb hbytes d8) rfl ?_
    exact Steps.refl _)
  obtain ⟨v6, T6, X6, E6, g6⟩ := X3.callS hexec (Cmp5.law l b A s.heap.size B3 o 0 len) hown (wks W (staticW U16 115 Cmp5.yN)) (wk W Cmp5.tab) (W := 0) (Nat.le_of_ble_eq_true rfl) (Nat.le_of_ble_eq_true rfl) (Nat.le_refl _) (by show 0 + len + 0 ≤ len; omega) (g := (mkF m 9 #[.val (.ref b), .val (.int (Int32.ofNat o)), .val (.int (Int32.ofNat len)), .val (.ref s.heap.size), .unset, .unset] [.int (Int32.ofNat len), .int (Int32.ofNat 0), .ref s.heap.size, .int (Int32.ofNat o), .ref b])) rfl (by rw [hml]; rfl) c5 (argsL := [.ref b, .int (Int32.ofNat o), .ref s.heap.size, .int (Int32.ofNat 0), .int (Int32.ofNat len)]) (rest := []) rfl rfl (by show 2 * 0 + 0 ≤ _; decide) (hb hbytes d9) (⟨rfl, hA3, ba3, hne, l1, by rw [bs3]; simp, hp⟩)
  obtain ⟨rfl, B6, p6, f6⟩ := E6
  have c7 : Steps p.tables e below (s₁.setTop (entryFrame m #[.ref b, .int (Int32.ofNat o), .int (Int32.ofNat len)] 6)) (T6.setTop (mkF m 12 #[.val (.ref b), .val (.int (Int32.ofNat o)), .val (.int (Int32.ofNat len)), .val (.ref s.heap.size), .unset, .unset] [.int (Int32.ofNat len)])) := g6
  have c8 : Steps p.tables e below (s₁.setTop (entryFrame m #[.ref b, .int (Int32.ofNat o), .int (Int32.ofNat len)] 6)) (T6.setTop (mkF m 58 #[.val (.ref b), .val (.int (Int32.ofNat o)), .val (.int (Int32.ofNat len)), .val (.ref s.heap.size), .val (.int (Int32.ofNat len)), .unset] [.ref s.heap.size])) := c7.trans (by
    refine XS.istore X6.here hexec rfl (hb hbytes d12) rfl rfl ?_
    refine XS.iload X6.here hexec rfl (hb hbytes d14) rfl ?_
    refine XS.iloadN X6.here hexec rfl (hb hbytes d16) rfl ?_
    refine XS.icmpYes X6.here hexec rfl (pc0 := 17) rfl (hb hbytes d17) rfl (ii_eq_t rfl) (by decide) rfl ?_
    refine XS.aloadN X6.here hexec rfl (hb hbytes d57) rfl rfl ?_
    exact Steps.refl _)
  have X8 := X6.wide (L' := []) (cells' := 1) (slots' := len) (fun x hx hlt => by
    simp only [List.nil_append, copyLocs, List.mem_map, List.mem_range] at hx
    obtain ⟨i, -, rfl⟩ := hx
    exact absurd hlt (Nat.lt_irrefl _)) (Nat.le_refl _) (by omega)
  exact ⟨T6, some (.ref s.heap.size), _, _, _, X8, rfl, rfl, rfl, (fun h => by cases h), ⟨⟨rfl, B6, ba3.like (X3.warmed.alike.symm.trans X6.warmed.alike) p6.1 f6.1 f6.2.1 f6.2.2.1, f6.2.1.trans bv3, by rw [X6.warmed.alike.findClass, f6.1]; exact bf3, by rw [f6.2.2.1, bs3]; simp, fun j hj => by rw [f6.2.2.2 j, if_pos (by omega)]; rfl, kp3.put p6 (Nat.le_refl _)⟩, by rw [p6.2.2, bh3, hh0]; simp⟩, fun fs hl => c8.trans (X8.areturnOut hexec rfl hret rfl (hb hbytes d58) hl)⟩
end Cmp3
namespace CodL
def yN : MethodName := ⟨"java/lang/StringUTF16", "coderFromArrayLen", "([BI)B"⟩
abbrev yB : ByteArray := jdk_52_method_15_code
theorem d0 : decode yB 0 = .ok (.iload_n 1, 1) := by decide +kernel
theorem d1 : decode yB 1 = .ok (.aload_n 0, 1) := by decide +kernel
theorem d2 : decode yB 2 = .ok (.arraylength, 1) := by decide +kernel
theorem d3 : decode yB 3 = .ok (.isub, 1) := by decide +kernel
theorem d4 : decode yB 4 = .ok (.bipush 31, 2) := by decide +kernel
theorem d6 : decode yB 6 = .ok (.iushr, 1) := by decide +kernel
theorem d7 : decode yB 7 = .ok (.i2b, 1) := by decide +kernel
theorem d8 : decode yB 8 = .ok (.ireturn, 1) := by decide +kernel
def site : List Cond := []
def tab : Cond := tabOf yN yB 2 (some .byte) site
def P (d : Addr) (B : Cell) (args : Array Value) (s : State) : Prop := args = #[.ref d, .int (Int32.ofNat B.slots.size)] ∧ Arr .byte d B s
def E (r : Option Value) (s u : State) : Prop := XT.PureE (some (.int 0)) r s u
/-- an array as long as the number of chars: LATIN1 -/
theorem law (l : Launch) (d : Addr) (B : Cell) : Law l yN 2 2 0 0 yB 2 (some .byte) site (P d B) E [] 0 0 := by
  refine Law.of_walk (plainFor_of_name (by decide +kernel)) (by decide +kernel) (by decide +kernel) (by decide) (fun _ _ h => by rw [h.1]; rfl) (fun _ U U' hal hh h => ⟨h.1, h.2.mv hal hh⟩) (fun r U U' V V' h1 hal h2 h => XT.PureE.mv r U U' V V' h1 hal h2 h) ?_
  intro p e s m args below meth c s₁ X0 hexec hbytes hml hret hlk hnm hown hh0 W hP
  obtain ⟨rfl, hB⟩ := hP
  have hB0 := hB.mv X0.warmed.alike hh0
  have c1 : Steps p.tables e below (s₁.setTop (entryFrame m #[.ref d, .int (Int32.ofNat B.slots.size)] 2)) (s₁.setTop (mkF m 0 #[.val (.ref d), .val (.int (Int32.ofNat B.slots.size))] [])) := entry rfl
  have c2 : Steps p.tables e below (s₁.setTop (entryFrame m #[.ref d, .int (Int32.ofNat B.slots.size)] 2)) (s₁.setTop (mkF m 2 #[.val (.ref d), .val (.int (Int32.ofNat B.slots.size))] [.ref d, .int (Int32.ofNat B.slots.size)])) := c1.trans (by
    refine XS.iloadN X0.here hexec rfl (hb hbytes d0) rfl ?_
    refine XS.aloadN X0.here hexec rfl (hb hbytes d1) rfl rfl ?_
    exact Steps.refl _)
  have c3 : Steps p.tables e below (s₁.setTop (entryFrame m #[.ref d, .int (Int32.ofNat B.slots.size)] 2)) (s₁.setTop (mkF m 8 #[.val (.ref d), .val (.int (Int32.ofNat B.slots.size))] [.int (lo8 (ushr (Int32.ofNat B.slots.size - Int32.ofNat B.slots.size) 31))])) := c2.trans (by
    refine X0.alen hexec hB0 rfl rfl (hb hbytes d2) ?_
    refine XS.isub X0.here hexec rfl (hb hbytes d3) rfl ?_
    refine bipushV X0.here hexec rfl 31 (hb hbytes d4) (by decide) ?_
    refine iushr X0.here hexec rfl (hb hbytes d6) rfl ?_
    refine i2b X0.here hexec rfl (hb hbytes d7) rfl ?_
    exact Steps.refl _)
  have e0 : lo8 (ushr (Int32.ofNat B.slots.size - Int32.ofNat B.slots.size) 31) = 0 := by rw [Int32.sub_self]; decide
  rw [e0] at c3
  exact ⟨s₁, some (.int 0), _, _, _, X0, rfl, rfl, rfl, (fun h => by cases h), ⟨rfl, hh0⟩, fun fs hl => c3.trans (X0.ireturnOut hexec hret rfl (Or.inr (Or.inr (Or.inl rfl))) (hb hbytes d8) hl)⟩
end CodL
/-- the String at a is Latin-1 over a new byte[] (the heap's one new cell): the low bytes of the len chars of A from o on; every cell but a is kept -/
def Got (a : Addr) (D : Cell) (fV fC : Field) (A : Cell) (o len : Nat) (r : Option Value) (s u : State) : Prop := r = none ∧ ∃ D' V : Cell, Blank "java/lang/String" a D' u ∧ Same D D' [fV.slot, fC.slot] ∧ D'.slots[fV.slot]? = some (.ref s.heap.size) ∧ D'.slots[fC.slot]? = some (.int 0) ∧ Arr .byte s.heap.size V u ∧ V.vm = .none ∧ u.vm.findClass "[B" = some V.cls ∧ V.slots.size = len ∧ (∀ j, j < len → V.slots[j]? = some (.int (lo8 (cv A (o + j))))) ∧ (∀ (y : Addr) (c : Cell), y ≠ a → s.heap[y]? = some c → u.heap[y]? = some c) ∧ u.heap.size = s.heap.size + 1
theorem Got.mv {a : Addr} {D A : Cell} {fV fC : Field} {o len : Nat} : ∀ r (U U' V V' : State), U'.heap = U.heap → V.vm.Alike V'.vm → V'.heap = V.heap → Got a D fV fC A o len r U V → Got a D fV fC A o len r U' V' :=
  fun r U U' V V' h1 hal h2 ⟨e0, D', X, a1, a2, a3, a4, a5, a6, a7, a8, a9, a10, a11⟩ => ⟨e0, D', X, a1.mv hal h2, a2, by rw [h1]; exact a3, a4, by rw [h1]; exact a5.mv hal h2, a6, by rw [hal.findClass]; exact a7, a8, a9, by rw [h1, h2]; exact a10, by rw [h1, h2]; exact a11⟩
namespace New4
def yN : MethodName := ⟨"java/lang/String", "<init>", "([CIILjava/lang/Void;)V"⟩
abbrev yB : ByteArray := jdk_42_method_149_code
theorem d0 : decode yB 0 = .ok (.aload_n 0, 1) := by decide +kernel
theorem d1 : decode yB 1 = .ok (.invokespecial 1, 3) := by decide +kernel
theorem d4 : decode yB 4 = .ok (.iload_n 3, 1) := by decide +kernel
theorem d5 : decode yB 5 = .ok (.ifCond (.ne) 22, 3) := by decide +kernel
theorem d27 : decode yB 27 = .ok (.getstatic 38, 3) := by decide +kernel
theorem d30 : decode yB 30 = .ok (.ifCond (.eq) 28, 3) := by decide +kernel
theorem d33 : decode yB 33 = .ok (.aload_n 1, 1) := by decide +kernel
theorem d34 : decode yB 34 = .ok (.iload_n 2, 1) := by decide +kernel
theorem d35 : decode yB 35 = .ok (.iload_n 3, 1) := by decide +kernel
theorem d36 : decode yB 36 = .ok (.invokestatic 177, 3) := by decide +kernel
theorem d39 : decode yB 39 = .ok (.astore 5, 2) := by decide +kernel
theorem d41 : decode yB 41 = .ok (.aload_n 0, 1) := by decide +kernel
theorem d42 : decode yB 42 = .ok (.aload 5, 2) := by decide +kernel
theorem d44 : decode yB 44 = .ok (.iload_n 3, 1) := by decide +kernel
theorem d45 : decode yB 45 = .ok (.invokestatic 47, 3) := by decide +kernel
theorem d48 : decode yB 48 = .ok (.putfield 15, 3) := by decide +kernel
theorem d51 : decode yB 51 = .ok (.aload_n 0, 1) := by decide +kernel
theorem d52 : decode yB 52 = .ok (.aload 5, 2) := by decide +kernel
theorem d54 : decode yB 54 = .ok (.putfield 9, 3) := by decide +kernel
theorem d57 : decode yB 57 = .ok (.return_, 1) := by decide +kernel
def site : List Cond := [.fieldLink "java/lang/String" 38 "java/lang/String" "COMPACT_STRINGS" "Z", Cmp3.tab, CodL.tab, .laysFinal "java/lang/String" "java/lang/String" "value" "[B", .fieldLink "java/lang/String" 9 "java/lang/String" "value" "[B", .laysFinal "java/lang/String" "java/lang/String" "coder" "B", .fieldLink "java/lang/String" 15 "java/lang/String" "coder" "B"] ++ objW "java/lang/String" 1 ++ staticW "java/lang/String" 177 Cmp3.yN ++ staticW "java/lang/String" 47 CodL.yN
def tab : Cond := tabOf yN yB 6 none site
def P (a : Addr) (D : Cell) (fV fC : Field) (b : Addr) (A : Cell) (z : Int32) (o len : Nat) (args : Array Value) (s : State) : Prop := args = #[.ref a, .ref b, .int (Int32.ofNat o), .int (Int32.ofNat len), .null] ∧ Blank "java/lang/String" a D s ∧ Found "java/lang/String" "value" "[B" fV s ∧ Found "java/lang/String" "coder" "B" fC s ∧ Ch b A s ∧ StaticIs s "java/lang/String" "COMPACT_STRINGS" "Z" (.int z) ∧ ¬ z = 0 ∧ 0 < len ∧ o + len ≤ A.slots.size ∧ len ≤ 536870912 ∧ ∀ i, i < len → ¬ 255 < cv A (o + i)
def E (a : Addr) (D : Cell) (fV fC : Field) (A : Cell) (o len : Nat) (r : Option Value) (s u : State) : Prop := Got a D fV fC A o len r s u
/-- len > 0, no char of the range above 255: a Latin-1 String of their low bytes -/
theorem law (l : Launch) (a : Addr) (D : Cell) (fV fC : Field) (b : Addr) (A : Cell) (z : Int32) (o len : Nat) : Law l yN 5 4 2 35 yB 6 none site (P a D fV fC b A z o len) (E a D fV fC A o len) [⟨a, fC.slot⟩, ⟨a, fV.slot⟩] 1 len := by
  refine Law.of_walk (plainFor_of_name (by decide +kernel)) (by decide +kernel) (by decide +kernel) (by decide) (fun _ _ h => by rw [h.1]; rfl) (fun _ U U' hal hh h => ⟨h.1, h.2.1.mv hal hh, h.2.2.1.al hal, h.2.2.2.1.al hal, h.2.2.2.2.1.mv hal hh, h.2.2.2.2.2.1.there hal hh, h.2.2.2.2.2.2⟩) (fun r U U' V V' h1 hal h2 h => Got.mv r U U' V V' h1 hal h2 h) ?_
  intro p e s m args below meth c s₁ X0 hexec hbytes hml hret hlk hnm hown hh0 W hP
  obtain ⟨rfl, hB, f1, f2, hA, s1, hz, l0, l1, l2, hp⟩ := hP
  have a31 := hA.1.2.2.2
  have c1 : Steps p.tables e below (s₁.setTop (entryFrame m #[.ref a, .ref b, .int (Int32.ofNat o), .int (Int32.ofNat len), .null] 6)) (s₁.setTop (mkF m 0 #[.val (.ref a), .val (.ref b), .val (.int (Int32.ofNat o)), .val (.int (Int32.ofNat len)), .val .null, .unset] [])) := entry rfl
  have c2 : Steps p.tables e below (s₁.setTop (entryFrame m #[.ref a, .ref b, .int (Int32.ofNat o), .int (Int32.ofNat len), .null] 6)) (s₁.setTop (mkF m 1 #[.val (.ref a), .val (.ref b), .val (.int (Int32.ofNat o)), .val (.int (Int32.ofNat len)), .val .null, .unset] [.ref a])) := c1.trans (by
    refine XS.aloadN X0.here hexec rfl (hb hbytes d0) rfl rfl ?_
    exact Steps.refl _)
  obtain ⟨T3, X3, q3, st3⟩ := X0.oinit hexec hown (wks W (objW "java/lang/String" 1)) (g := (mkF m 1 #[.val (.ref a), .val (.ref b), .val (.int (Int32.ofNat o)), .val (.int (Int32.ofNat len)), .val .null, .unset] [.ref a])) rfl (by rw [hml]; rfl) (rest := []) rfl (hb hbytes d1) (W := 0) (by show 2 * 0 + 0 ≤ _; decide) (Nat.le_of_ble_eq_true rfl) (Nat.le_of_ble_eq_true rfl)
  have hh3 := q3.trans hh0
  have c4 : Steps p.tables e below (s₁.setTop (entryFrame m #[.ref a, .ref b, .int (Int32.ofNat o), .int (Int32.ofNat len), .null] 6)) (T3.setTop (mkF m 27 #[.val (.ref a), .val (.ref b), .val (.int (Int32.ofNat o)), .val (.int (Int32.ofNat len)), .val .null, .unset] [])) := (c2.trans (st3 _ (Steps.refl _))).trans (by
    refine XS.iloadN X3.here hexec rfl (hb hbytes d4) rfl ?_
    refine XS.ifYes X3.here hexec rfl (pc0 := 5) rfl (hb hbytes d5) rfl (i0_ne_t (nz32 (by omega) l0)) (by decide) rfl ?_
    exact Steps.refl _)
  obtain ⟨T5, X5, q5, st5⟩ := X3.sget hexec hown (wk W (.fieldLink "java/lang/String" 38 "java/lang/String" "COMPACT_STRINGS" "Z")) s1 (fun _ _ h => by rw [hh3]; exact h) (g := (mkF m 27 #[.val (.ref a), .val (.ref b), .val (.int (Int32.ofNat o)), .val (.int (Int32.ofNat len)), .val .null, .unset] [])) rfl (hb hbytes d27)
  have hh5 := q5.trans hh3
  have c6 : Steps p.tables e below (s₁.setTop (entryFrame m #[.ref a, .ref b, .int (Int32.ofNat o), .int (Int32.ofNat len), .null] 6)) (T5.setTop (mkF m 30 #[.val (.ref a), .val (.ref b), .val (.int (Int32.ofNat o)), .val (.int (Int32.ofNat len)), .val .null, .unset] [.int z])) := c4.trans (st5 _ (Steps.refl _))
  have c7 : Steps p.tables e below (s₁.setTop (entryFrame m #[.ref a, .ref b, .int (Int32.ofNat o), .int (Int32.ofNat len), .null] 6)) (T5.setTop (mkF m 36 #[.val (.ref a), .val (.ref b), .val (.int (Int32.ofNat o)), .val (.int (Int32.ofNat len)), .val .null, .unset] [.int (Int32.ofNat len), .int (Int32.ofNat o), .ref b])) := c6.trans (by
    refine XS.ifNo X5.here hexec rfl (hb hbytes d30) rfl (i0_eq_f hz) ?_
    refine XS.aloadN X5.here hexec rfl (hb hbytes d33) rfl rfl ?_
    refine XS.iloadN X5.here hexec rfl (hb hbytes d34) rfl ?_
    refine XS.iloadN X5.here hexec rfl (hb hbytes d35) rfl ?_
    exact Steps.refl _)
  obtain ⟨v8, T8, X8, E8, g8⟩ := X5.callS hexec (Cmp3.law l b A o len) hown (wks W (staticW "java/lang/String" 177 Cmp3.yN)) (wk W Cmp3.tab) (W := 0) (Nat.le_of_ble_eq_true rfl) (Nat.le_of_ble_eq_true rfl) (Nat.le_refl _) (by show 0 + len ≤ len; omega) (g := (mkF m 36 #[.val (.ref a), .val (.ref b), .val (.int (Int32.ofNat o)), .val (.int (Int32.ofNat len)), .val .null, .unset] [.int (Int32.ofNat len), .int (Int32.ofNat o), .ref b])) rfl (by rw [hml]; rfl) c7 (argsL := [.ref b, .int (Int32.ofNat o), .int (Int32.ofNat len)]) (rest := []) rfl rfl (by show 2 * 0 + 0 ≤ _; decide) (hb hbytes d36) (⟨rfl, hA.mv X5.warmed.alike hh5, l1, l2, hp⟩)
  obtain ⟨e8, z8⟩ := E8
  obtain ⟨rfl, N, n1, n2, n3, n4, n5, n6⟩ := NewArr.mv _ T5 s _ _ hh5.symm (Vm.Alike.refl _) rfl e8
  rw [hh5] at z8
  have hB1 := hB.keep X8.warmed.alike (n6 _ _ hB.1)
  have hne : s.heap.size ≠ a := (Nat.ne_of_lt (Array.getElem?_eq_some_iff.mp hB.1).1).symm
  have c9 : Steps p.tables e below (s₁.setTop (entryFrame m #[.ref a, .ref b, .int (Int32.ofNat o), .int (Int32.ofNat len), .null] 6)) (T8.setTop (mkF m 39 #[.val (.ref a), .val (.ref b), .val (.int (Int32.ofNat o)), .val (.int (Int32.ofNat len)), .val .null, .unset] [.ref s.heap.size])) := g8
  have c10 : Steps p.tables e below (s₁.setTop (entryFrame m #[.ref a, .ref b, .int (Int32.ofNat o), .int (Int32.ofNat len), .null] 6)) (T8.setTop (mkF m 45 #[.val (.ref a), .val (.ref b), .val (.int (Int32.ofNat o)), .val (.int (Int32.ofNat len)), .val .null, .val (.ref s.heap.size)] [.int (Int32.ofNat N.slots.size), .ref s.heap.size, .ref a])) := by
    have hc : Steps p.tables e below (s₁.setTop (entryFrame m #[.ref a, .ref b, .int (Int32.ofNat o), .int (Int32.ofNat len), .null] 6)) (T8.setTop (mkF m 45 #[.val (.ref a), .val (.ref b), .val (.int (Int32.ofNat o)), .val (.int (Int32.ofNat len)), .val .null, .val (.ref s.heap.size)] [.int (Int32.ofNat len), .ref s.heap.size, .ref a])) := c9.trans (by
      refine XS.astore X8.here hexec rfl (hb hbytes d39) rfl rfl rfl ?_
      refine XS.aloadN X8.here hexec rfl (hb hbytes d41) rfl rfl ?_
      refine XS.aload X8.here hexec rfl (hb hbytes d42) rfl rfl ?_
      refine XS.iloadN X8.here hexec rfl (hb hbytes d44) rfl ?_
      exact Steps.refl _)
    rw [n4]; exact hc
  obtain ⟨v11, T11, X11, E11, g11⟩ := X8.callS hexec (CodL.law l s.heap.size N) hown (wks W (staticW "java/lang/String" 47 CodL.yN)) (wk W CodL.tab) (W := 1) (Nat.le_of_ble_eq_true rfl) (Nat.le_of_ble_eq_true rfl) (Nat.le_refl _) (by show 0 + len + 0 ≤ len; omega) (g := (mkF m 45 #[.val (.ref a), .val (.ref b), .val (.int (Int32.ofNat o)), .val (.int (Int32.ofNat len)), .val .null, .val (.ref s.heap.size)] [.int (Int32.ofNat N.slots.size), .ref s.heap.size, .ref a])) rfl (by rw [hml]; rfl) c10 (argsL := [.ref s.heap.size, .int (Int32.ofNat N.slots.size)]) (rest := [.ref a]) rfl rfl (by show 2 * 0 + (1 + 0) ≤ _; decide) (hb hbytes d45) (⟨rfl, n1⟩)
  obtain ⟨rfl, q11⟩ := E11
  have hB11 := hB1.mv (X8.warmed.alike.symm.trans X11.warmed.alike) q11
  have c12 : Steps p.tables e below (s₁.setTop (entryFrame m #[.ref a, .ref b, .int (Int32.ofNat o), .int (Int32.ofNat len), .null] 6)) (T11.setTop (mkF m 48 #[.val (.ref a), .val (.ref b), .val (.int (Int32.ofNat o)), .val (.int (Int32.ofNat len)), .val .null, .val (.ref s.heap.size)] [.int 0, .ref a])) := g11
  obtain ⟨T13, X13, p13, bl13, sl13, st13⟩ := X11.finit hexec hown (wk W (.fieldLink "java/lang/String" 15 "java/lang/String" "coder" "B")) (Or.inr ⟨_, (wk W (.laysFinal "java/lang/String" "java/lang/String" "coder" "B"))⟩) (Or.inl ⟨rfl, hnm⟩) f2 (Or.inl rfl) hB11 (t := .byte) (by decide +kernel) rfl (g := (mkF m 48 #[.val (.ref a), .val (.ref b), .val (.int (Int32.ofNat o)), .val (.int (Int32.ofNat len)), .val .null, .val (.ref s.heap.size)] [.int 0, .ref a])) rfl (rest := []) rfl (hb hbytes d48)
  have c14 : Steps p.tables e below (s₁.setTop (entryFrame m #[.ref a, .ref b, .int (Int32.ofNat o), .int (Int32.ofNat len), .null] 6)) (T13.setTop (mkF m 54 #[.val (.ref a), .val (.ref b), .val (.int (Int32.ofNat o)), .val (.int (Int32.ofNat len)), .val .null, .val (.ref s.heap.size)] [.ref s.heap.size, .ref a])) := (c12.trans (st13 _ (Steps.refl _))).trans (by
    refine XS.aloadN X13.here hexec rfl (hb hbytes d51) rfl rfl ?_
    refine XS.aload X13.here hexec rfl (hb hbytes d52) rfl rfl ?_
    exact Steps.refl _)
  obtain ⟨T15, X15, p15, bl15, sl15, st15⟩ := X13.finit hexec hown (wk W (.fieldLink "java/lang/String" 9 "java/lang/String" "value" "[B")) (Or.inr ⟨_, (wk W (.laysFinal "java/lang/String" "java/lang/String" "value" "[B"))⟩) (Or.inl ⟨rfl, hnm⟩) f1 (Or.inl rfl) bl13 (t := (.array .byte)) (by decide +kernel) rfl (g := (mkF m 54 #[.val (.ref a), .val (.ref b), .val (.int (Int32.ofNat o)), .val (.int (Int32.ofNat len)), .val .null, .val (.ref s.heap.size)] [.ref s.heap.size, .ref a])) rfl (rest := []) rfl (hb hbytes d54)
  have c16 : Steps p.tables e below (s₁.setTop (entryFrame m #[.ref a, .ref b, .int (Int32.ofNat o), .int (Int32.ofNat len), .null] 6)) (T15.setTop (mkF m 57 #[.val (.ref a), .val (.ref b), .val (.int (Int32.ofNat o)), .val (.int (Int32.ofNat len)), .val .null, .val (.ref s.heap.size)] [])) := c14.trans (st15 _ (Steps.refl _))
  have ap := apart (Or.inr ⟨_, (wk W (.laysFinal "java/lang/String" "java/lang/String" "value" "[B"))⟩) (Or.inr ⟨_, (wk W (.laysFinal "java/lang/String" "java/lang/String" "coder" "B"))⟩) f1 f2 (t₁ := .array .byte) (t₂ := .byte) (by decide +kernel) (by decide +kernel) (by decide)
  have al := X8.warmed.alike.symm.trans X15.warmed.alike
  have n7 : T11.heap[s.heap.size]? = some N := by rw [q11]; exact n1.1
  exact ⟨T15, none, _, _, _, X15, by simp, rfl, by omega, (fun _ => rfl), ⟨rfl, _, N, bl15, ((Same.refl D _).set _ (by simp)).set _ (by simp), sl15, (Cell.slots_setSlot_ne _ ap).trans sl13, n1.keep al (p15.other hne (p13.other hne n7)), n2, by rw [al.findClass]; exact n3, n4, n5, fun y c h1 h2 => p15.other h1 (p13.other h1 (by rw [q11]; exact n6 y c h2)), by rw [p15.2.2, p13.2.2, q11]; exact z8⟩, fun fs hl => c16.trans (X15.returnOut hexec hret (hb hbytes d57) hl)⟩
end New4
namespace New1
def yN : MethodName := ⟨"java/lang/String", "<init>", "([C)V"⟩
abbrev yB : ByteArray := jdk_42_method_3_code
theorem d0 : decode yB 0 = .ok (.aload_n 0, 1) := by decide +kernel
theorem d1 : decode yB 1 = .ok (.aload_n 1, 1) := by decide +kernel
theorem d2 : decode yB 2 = .ok (.iconst 0, 1) := by decide +kernel
theorem d3 : decode yB 3 = .ok (.aload_n 1, 1) := by decide +kernel
theorem d4 : decode yB 4 = .ok (.arraylength, 1) := by decide +kernel
theorem d5 : decode yB 5 = .ok (.aconst_null, 1) := by decide +kernel
theorem d6 : decode yB 6 = .ok (.invokespecial 27, 3) := by decide +kernel
theorem d9 : decode yB 9 = .ok (.return_, 1) := by decide +kernel
def site : List Cond := [New4.tab] ++ initW "java/lang/String" 27 New4.yN
def tab : Cond := tabOf yN yB 2 none site
def P (a : Addr) (D : Cell) (fV fC : Field) (b : Addr) (A : Cell) (z : Int32) (args : Array Value) (s : State) : Prop := args = #[.ref a, .ref b] ∧ Blank "java/lang/String" a D s ∧ Found "java/lang/String" "value" "[B" fV s ∧ Found "java/lang/String" "coder" "B" fC s ∧ Ch b A s ∧ StaticIs s "java/lang/String" "COMPACT_STRINGS" "Z" (.int z) ∧ ¬ z = 0 ∧ 0 < A.slots.size ∧ A.slots.size ≤ 536870912 ∧ ∀ i, i < A.slots.size → ¬ 255 < cv A i
def E (a : Addr) (D : Cell) (fV fC : Field) (A : Cell) (r : Option Value) (s u : State) : Prop := Got a D fV fC A 0 A.slots.size r s u
/-- new String(chars), not empty, no char above 255: a Latin-1 String of their low bytes -/
theorem law (l : Launch) (a : Addr) (D : Cell) (fV fC : Field) (b : Addr) (A : Cell) (z : Int32) : Law l yN 2 1 3 52 yB 2 none site (P a D fV fC b A z) (E a D fV fC A) [⟨a, fC.slot⟩, ⟨a, fV.slot⟩] 1 A.slots.size := by
  refine Law.of_walk (plainFor_of_name (by decide +kernel)) (by decide +kernel) (by decide +kernel) (by decide) (fun _ _ h => by rw [h.1]; rfl) (fun _ U U' hal hh h => ⟨h.1, h.2.1.mv hal hh, h.2.2.1.al hal, h.2.2.2.1.al hal, h.2.2.2.2.1.mv hal hh, h.2.2.2.2.2.1.there hal hh, h.2.2.2.2.2.2⟩) (fun r U U' V V' h1 hal h2 h => Got.mv r U U' V V' h1 hal h2 h) ?_
  intro p e s m args below meth c s₁ X0 hexec hbytes hml hret hlk hnm hown hh0 W hP
  obtain ⟨rfl, hB, f1, f2, hA, s1, hz, l0, l2, hp⟩ := hP
  have c1 : Steps p.tables e below (s₁.setTop (entryFrame m #[.ref a, .ref b] 2)) (s₁.setTop (mkF m 0 #[.val (.ref a), .val (.ref b)] [])) := entry rfl
  have c2 : Steps p.tables e below (s₁.setTop (entryFrame m #[.ref a, .ref b] 2)) (s₁.setTop (mkF m 6 #[.val (.ref a), .val (.ref b)] [.null, .int (Int32.ofNat A.slots.size), .int 0, .ref b, .ref a])) := c1.trans (by
    refine XS.aloadN X0.here hexec rfl (hb hbytes d0) rfl rfl ?_
    refine XS.aloadN X0.here hexec rfl (hb hbytes d1) rfl rfl ?_
    refine iconstV X0.here hexec rfl 0 (hb hbytes d2) (by decide) ?_
    refine XS.aloadN X0.here hexec rfl (hb hbytes d3) rfl rfl ?_
    refine X0.alen hexec (hA.1.mv X0.warmed.alike hh0) rfl rfl (hb hbytes d4) ?_
    refine XS.aconstNull X0.here hexec rfl (hb hbytes d5) ?_
    exact Steps.refl _)
  obtain ⟨v3, T3, X3, E3, g3⟩ := X0.callN hexec (New4.law l a D fV fC b A z 0 A.slots.size) rfl hown (wks W (initW "java/lang/String" 27 New4.yN)) (W New4.tab (by simp only [site, List.mem_cons, List.mem_append, true_or, or_true])) (W := 0) (Nat.le_of_ble_eq_true rfl) (Nat.le_of_ble_eq_true rfl) (Nat.le_refl _) (by show 0 + A.slots.size ≤ A.slots.size; omega) (g := (mkF m 6 #[.val (.ref a), .val (.ref b)] [.null, .int (Int32.ofNat A.slots.size), .int (Int32.ofNat 0), .ref b, .ref a])) rfl (by rw [hml]; rfl) c2 (argsL := [.ref b, .int (Int32.ofNat 0), .int (Int32.ofNat A.slots.size), .null]) (rest := []) rfl rfl (by show 2 * 0 + 0 ≤ _; decide) (hb hbytes d6) (⟨rfl, hB.mv X0.warmed.alike hh0, f1.al X0.warmed.alike, f2.al X0.warmed.alike, hA.mv X0.warmed.alike hh0, s1.there X0.warmed.alike hh0, hz, l0, by omega, l2, fun i hi => by rw [Nat.zero_add]; exact hp i hi⟩)
  have e0 := Got.mv _ s₁ s _ _ hh0.symm (Vm.Alike.refl _) rfl E3
  obtain rfl := e0.1
  have c4 : Steps p.tables e below (s₁.setTop (entryFrame m #[.ref a, .ref b] 2)) (T3.setTop (mkF m 9 #[.val (.ref a), .val (.ref b)] [])) := g3
  exact ⟨T3, none, _, _, _, X3, by simp, rfl, by omega, (fun _ => rfl), e0, fun fs hl => c4.trans (X3.returnOut hexec hret (hb hbytes d9) hl)⟩
theorem pays {l : Launch} {R : Room} {p : Program} {e : Env} {below : List Frame} {s : State} {sargs : Array Value} {len W : Nat} (a : Addr) (D : Cell) (fV fC : Field) (b : Addr) (A : Cell) (z : Int32) (htab : tab.before sargs s = true) (hfr : 4 ≤ R.frames) (hlo : W + 65 ≤ R.locals) :
    Back l R p e below s sargs yN len W (fun A₁ a₁ => A₁.cells + 1 ≤ R.cells ∧ A₁.slots + A.slots.size ≤ R.slots ∧ P a D fV fC b A z a₁ A₁.U) (fun A₁ _ v₁ B₁ => E a D fV fC A v₁ A₁.U B₁.U ∧ B₁.locs = A₁.locs ++ [⟨a, fC.slot⟩, ⟨a, fV.slot⟩] ∧ B₁.cells = A₁.cells + 1 ∧ B₁.slots = A₁.slots + A.slots.size) :=
  (law l a D fV fC b A z).pays htab hfr (by omega)
end New1
/-- the byte, read back as charAt reads it, is the char -/
theorem lo8_mask {x : Int32} (h0 : ¬ x < 0) (h1 : ¬ 255 < x) : lo8 x &&& 255 = x := by
  have t : ∀ k : Fin 256, lo8 (Int32.ofNat k.val) &&& 255 = Int32.ofNat k.val := by decide +kernel
  rw [Int32.lt_iff_toInt_lt] at h0 h1
  have e0 : (0 : Int32).toInt = 0 := rfl
  have e1 : (255 : Int32).toInt = 255 := rfl
  obtain ⟨k, hk⟩ : ∃ k : Nat, x.toInt = k := ⟨x.toInt.toNat, by omega⟩
  have hx : x = Int32.ofNat k := Int32.toInt_inj.mp (by rw [hk, Int32.toInt_ofNat_small (by omega)])
  rw [hx]
  exact t ⟨k, by omega⟩
end StrChars
namespace StrChars.Road
open Jvm Sem ClassFile Op Lib Jvm.Stand Jvm.Free Jvm.Free.XT
open Jvm.Lib.Cold (StaticIs)
abbrev ST : String := "java/lang/String"
/-- every table word that New1's law asks, flat -/
abbrev words : List Jvm.Cond := [.code New1.yN New1.yB 2 none, .initialized ST, .methodLink ST 27 New4.yN, .instanceMethod New4.yN,
  .code New4.yN New4.yB 6 none, .fieldLink ST 38 ST "COMPACT_STRINGS" "Z", .laysFinal ST ST "value" "[B", .fieldLink ST 9 ST "value" "[B", .laysFinal ST ST "coder" "B", .fieldLink ST 15 ST "coder" "B",
  .methodLink ST 1 Lib.objectInit, .instanceMethod Lib.objectInit, .code Lib.objectInit ⟨#[0xb1]⟩ 1 none, .methodLink ST 177 Cmp3.yN, .static Cmp3.yN, .methodLink ST 47 CodL.yN, .static CodL.yN,
  .code Cmp3.yN Cmp3.yB 6 (some (.array .byte)), .initialized U16, .arrayClass .byte, .methodLink U16 115 Cmp5.yN, .static Cmp5.yN, .code Cmp5.yN Cmp5.yB 7 (some .int), .code CodL.yN CodL.yB 2 (some .byte)]
theorem tab_of {a : Array Value} {s : State} (h : ∀ w ∈ words, w.before a s = true) : New1.tab.before a s = true := by
  have h5 : Cmp5.tab.before a s = true := unparts (wk h (.code Cmp5.yN Cmp5.yB 7 (some .int))) (wks h (.initialized Cmp5.yN.cls :: Cmp5.site))
  have hc : CodL.tab.before a s = true := unparts (wk h (.code CodL.yN CodL.yB 2 (some .byte))) (wks h (.initialized CodL.yN.cls :: CodL.site))
  have q5 : ∀ w ∈ Cmp5.tab :: words, w.before a s = true := fun w hw => (List.mem_cons.mp hw).elim (fun e => e ▸ h5) (h w)
  have h3 : Cmp3.tab.before a s = true := unparts (wk q5 (.code Cmp3.yN Cmp3.yB 6 (some (.array .byte)))) (wks q5 (.initialized Cmp3.yN.cls :: Cmp3.site))
  have q3 : ∀ w ∈ Cmp3.tab :: CodL.tab :: words, w.before a s = true := fun w hw => (List.mem_cons.mp hw).elim (fun e => e ▸ h3) fun hw => (List.mem_cons.mp hw).elim (fun e => e ▸ hc) (h w)
  have h4 : New4.tab.before a s = true := unparts (wk q3 (.code New4.yN New4.yB 6 none)) (wks q3 (.initialized New4.yN.cls :: New4.site))
  have q4 : ∀ w ∈ New4.tab :: words, w.before a s = true := fun w hw => (List.mem_cons.mp hw).elim (fun e => e ▸ h4) (h w)
  exact unparts (wk q4 (.code New1.yN New1.yB 2 none)) (wks q4 (.initialized New1.yN.cls :: New1.site))
/-- the words ride from the start Z to the walk's own state -/
theorem moved {Z s : State} {a0 args : Array Value} (hZ : Z.Warmed39 s.vm) (hw : ∀ d ∈ words, d.before a0 Z = true) : ∀ d ∈ words, d.before args s = true := fun d hd => by
  have q := hw d hd
  have t : ∀ d ∈ words, d = .arrayClass .byte ∨ (d.onTables && d.keepsFace) = true := by decide +kernel
  rcases t d hd with rfl | t
  · exact RoadKit.mvA hZ q
  · exact RoadKit.mv hZ q t
/-- WHAT COMES BACK, over the tables of the start Z: h the heap at the call, h' behind it -/
def Q (Z : State) (x : Addr) (A : Cell) (h : Heap) (v : Option Value) (h' : Heap) (L : List Loc) : Prop := v = none ∧ (∀ y ∈ L, y.base = x) ∧ RoadKit.Keep h h' [x] ∧ h'.size = h.size + 1 ∧ RoadKit.Exa Z h' x ST ∧ RoadKit.Fld Z h' x ST "value" "[B" (.ref h.size) ∧ RoadKit.Fld Z h' x ST "coder" "B" (.int 0) ∧
  (∃ V : Cell, RoadKit.Arr Z h' h.size V .byte ∧ V.vm = .none ∧ Z.vm.findClass "[B" = some V.cls ∧ V.slots.size = A.slots.size ∧ ∀ j, j < A.slots.size → V.slots[j]? = some (.int (lo8 (cv A j)))) ∧
  ∀ (O n d : String) (w : Value), RoadKit.Fld Z h x O n d w → RoadKit.slotOf Z O n d ≠ RoadKit.slotOf Z ST "value" "[B" → RoadKit.slotOf Z O n d ≠ RoadKit.slotOf Z ST "coder" "B" → RoadKit.Fld Z h' x O n d w
/-- **new String(chars) AT A CALL, IN THE ROAD'S FORM**: for specialBack behind newO: x the fresh String, b the char[] with the cell A -/
theorem back {p : Program} {l : Launch} {e : Env} {R : Room} {s : State} {args : Array Value} {below : List Frame} {len W : Nat} {Z : State} {a0 : Array Value} {h : Heap} (hZ : Z.Warmed39 s.vm) (hw : ∀ d ∈ words, d.before a0 Z = true) {kI : Nat} (wi : (Jvm.Cond.instantiable ST kI).before a0 Z = true)
    {x b : Addr} {A : Cell} {z : Int32} {v0 c0 : Value} (E : RoadKit.Exa Z h x ST) (V : RoadKit.Fld Z h x ST "value" "[B" v0) (C : RoadKit.Fld Z h x ST "coder" "B" c0) (K : RoadKit.Arr Z h b A .char) (hty : Typed .char A) (S : RoadKit.Sta Z h ST "COMPACT_STRINGS" "Z" (.int z)) (hz : ¬ z = 0)
    (l0 : 0 < A.slots.size) (l2 : A.slots.size ≤ 536870912) (hp : ∀ i, i < A.slots.size → ¬ 255 < cv A i) (hfr : 4 ≤ R.frames) (hlo : W + 65 ≤ R.locals) :
    Back l R p e below s args New1.yN len W (fun P a => a = #[.ref x, .ref b] ∧ P.U.heap = h ∧ P.cells + 1 ≤ R.cells ∧ P.slots + A.slots.size ≤ R.slots)
      (fun P _ v B => ∃ L, Q Z x A h v B.U.heap L ∧ B.locs = P.locs ++ L ∧ B.cells = P.cells + 1 ∧ B.slots = P.slots + A.slots.size) := by
  intro m meth c P g ig mk a X hg hsize hdg hW hn hp'
  obtain ⟨rfl, rfl, r1, r2⟩ := hp'
  have al : Z.vm.Alike P.U.vm := hZ.alike.trans X.warmed.alike
  obtain ⟨D, cfV, kV, iV, fV, hD, gV, stV, knV, obV, asV, slV⟩ := id V
  obtain ⟨D', cfC, kC, iC, fC, hD', gC, stC, -, -, asC, slC⟩ := id C
  cases hD.symm.trans hD'
  obtain ⟨D2, kD, e1, e2, e3, e4, e5⟩ := id E
  cases hD.symm.trans e1
  obtain ⟨c2, k2, i1, i2, i3, -⟩ := Cond.instantiable_spec wi
  cases e2.symm.trans i1
  cases e3.symm.trans i2
  obtain ⟨kU, u1, u2⟩ := al.2.2 _ _ e3
  have hB : Blank ST x D P.U := ⟨hD, ⟨knV, fun q hq => by rw [hq] at obV; cases obV⟩, by rw [al.findClass]; exact e2, kU, u1, by rw [u2]; exact i3, by rw [u2]; exact e5 i3⟩
  have F1 : Found ST "value" "[B" fV P.U := ⟨SBG.found_only al ⟨cfV, kV, iV, gV⟩, stV⟩
  have F2 : Found ST "coder" "B" fC P.U := ⟨SBG.found_only al ⟨cfC, kC, iC, gC⟩, stC⟩
  have hA : Ch b A P.U := ⟨⟨K.1, State.isArrayOf_alike al K.2.1, K.2.2, by omega⟩, hty⟩
  have hS : StaticIs P.U ST "COMPACT_STRINGS" "Z" (.int z) := by
    obtain ⟨cfS, iS, kS, fS, st, cS, t1, t2, t3, t4, t5, t6, t7⟩ := S
    exact StaticIs.there (s := { Z with heap := P.U.heap }) ⟨cfS, iS, kS, fS, st, cS, t1, t2, t3, t4, t5, (fun q => by rw [q] at t6; cases t6), t7⟩ al rfl
  obtain ⟨v, B, X', ⟨⟨hv, E', V', q1, q2, q3, q4, q5, q6, q7, q8, q9, q10, q11⟩, hl, hc, hs⟩, st⟩ := New1.pays x D fV fC b A z (tab_of (moved hZ hw)) hfr hlo m meth c P g ig mk _ X hg hsize hdg hW hn ⟨r1, r2, rfl, hB, F1, F2, hA, hS, hz, l0, l2, hp⟩
  have al' : Z.vm.Alike B.U.vm := hZ.alike.trans X'.warmed.alike
  have hsz : E'.slots.size = D.slots.size := by
    obtain ⟨-, -, -, kB, w1, w2, w3⟩ := q1
    obtain ⟨kB', y1, y2⟩ := al'.2.2 _ _ e3
    rw [q2.2.1] at w1
    cases w1.symm.trans y1
    rw [w3, e5 i3, y2]
  refine ⟨v, B, X', ⟨_, ⟨hv, ?_, ⟨by omega, fun y cy hy hn' => q10 y cy (by simpa using hn') hy, fun y cy hy => ?_⟩, q11, ⟨E', _, q1.1, by rw [q2.2.1]; exact e2, by rw [q2.2.1]; exact e3, by rw [q2.1]; exact obV, fun _ => by rw [hsz]; exact e5 i3⟩,
    ⟨E', cfV, kV, iV, fV, q1.1, gV, stV, by rw [q2.1]; exact knV, by rw [q2.1]; exact obV, by rw [q2.2.1]; exact asV, q3⟩, ⟨E', cfC, kC, iC, fC, q1.1, gC, stC, by rw [q2.1]; exact knV, by rw [q2.1]; exact obV, by rw [q2.2.1]; exact asC, q4⟩,
    ⟨V', ⟨q5.1, State.isArrayOf_alike al'.symm q5.2.1, q5.2.2.1⟩, q6, by rw [← al'.findClass]; exact q7, q8, fun j hj => by have := q9 j hj; rwa [Nat.zero_add] at this⟩, fun O n d w F n1 n2 => ?_⟩, hl, hc, hs⟩, st⟩
  · intro y hy
    simp only [List.mem_cons, List.not_mem_nil, or_false] at hy
    rcases hy with rfl | rfl <;> rfl
  · by_cases q : y = x
    · subst q
      cases hD.symm.trans hy
      exact ⟨E', q1.1, q2.2.1, q2.1, hsz⟩
    · exact ⟨cy, q10 y cy q hy, rfl, rfl, rfl⟩
  · obtain ⟨D3, cf, k, i, f, g1, g2, g3, g4, g5, g6, g7⟩ := F
    cases hD.symm.trans g1
    simp only [RoadKit.slotOf, g2, gV, gC, Option.map_some, Option.getD_some] at n1 n2
    exact ⟨E', cf, k, i, f, q1.1, g2, g3, by rw [q2.1]; exact g4, by rw [q2.1]; exact g5, by rw [q2.2.1]; exact g6, by rw [q2.2.2 f.slot (by simp [n1, n2])]; exact g7⟩
end StrChars.Road
namespace StrChars.Road
open Jvm Sem ClassFile Op Lib Jvm.Stand Jvm.Free Jvm.Free.XT
/-- WHAT COMES BACK, the byte[] as a list of values -/
def QA (Z : State) (x : Addr) (zn : Int32) (cs : List Int32) (h : Heap) (v : Option Value) (h' : Heap) (L : List Loc) : Prop := v = none ∧ (∀ y ∈ L, y.base = x) ∧ RoadKit.Keep h h' [x] ∧ h'.size = h.size + 1 ∧ RoadKit.Exa Z h' x ST ∧ RoadKit.Fld Z h' x ST "value" "[B" (.ref h.size) ∧ RoadKit.Fld Z h' x ST "coder" "B" (.int 0) ∧
  (∃ kb, Z.vm.findClass "[B" = some kb ∧ RoadKit.Arv Z h' h.size kb .byte zn (cs.map fun c => .int (lo8 c)) (.int 0)) ∧
  ∀ (O n d : String) (w : Value), RoadKit.Fld Z h x O n d w → RoadKit.slotOf Z O n d ≠ RoadKit.slotOf Z ST "value" "[B" → RoadKit.slotOf Z O n d ≠ RoadKit.slotOf Z ST "coder" "B" → RoadKit.Fld Z h' x O n d w
/-- **new String(chars) AT A CALL, THE ARRAYS AS LISTS**: the char[] at b holds cs, not empty, no char above 255 -/
theorem backArv {p : Program} {l : Launch} {e : Env} {R : Room} {s : State} {args : Array Value} {below : List Frame} {len W : Nat} {Z : State} {a0 : Array Value} {h : Heap} (hZ : Z.Warmed39 s.vm) (hw : ∀ d ∈ words, d.before a0 Z = true) {kI : Nat} (wi : (Jvm.Cond.instantiable ST kI).before a0 Z = true)
    {x b : Addr} {k : ClassId} {zn z : Int32} {cs : List Int32} {dv v0 c0 : Value} (E : RoadKit.Exa Z h x ST) (V : RoadKit.Fld Z h x ST "value" "[B" v0) (C : RoadKit.Fld Z h x ST "coder" "B" c0) (K : RoadKit.Arv Z h b k .char zn (cs.map Value.int) dv) (S : RoadKit.Sta Z h ST "COMPACT_STRINGS" "Z" (.int z)) (hz : ¬ z = 0)
    (hlen : zn.toNatClampNeg = cs.length) (h0 : 0 < cs.length) (hbig : cs.length ≤ 536870912) (hall : ∀ c ∈ cs, ¬ 255 < c) (hfr : 4 ≤ R.frames) (hlo : W + 65 ≤ R.locals) :
    Back l R p e below s args New1.yN len W (fun P a => a = #[.ref x, .ref b] ∧ P.U.heap = h ∧ P.cells + 1 ≤ R.cells ∧ P.slots + cs.length ≤ R.slots)
      (fun P _ v B => ∃ L, QA Z x zn cs h v B.U.heap L ∧ B.locs = P.locs ++ L ∧ B.cells = P.cells + 1 ∧ B.slots = P.slots + cs.length) := by
  obtain ⟨A, K1, K2, K3, K4, K5, K6⟩ := K
  have e : A.slots.size = cs.length := K3.trans hlen
  have hat : ∀ (i : Nat) (hi : i < cs.length), A.slots[i]? = some (.int cs[i]) := fun i hi => by rw [K5 i (by omega)]; simp [List.getD_eq_getElem?_getD, hi]
  have hcv : ∀ (i : Nat) (hi : i < cs.length), cv A i = cs[i] := fun i hi => by unfold cv; rw [hat i hi]
  have hty : Typed .char A := fun i v hv => by
    have hi : i < A.slots.size := (Array.getElem?_eq_some_iff.mp hv).1
    have q := K5 i hi
    rw [hv] at q
    rw [Option.some.inj q]
    exact K6 i hi
  refine Back.mono (back hZ hw wi E V C K1 hty S hz (by omega) (by omega) (fun i hi => by rw [hcv i (by omega)]; exact hall _ (List.getElem_mem _)) hfr hlo) (fun P a hp => ⟨hp.1, hp.2.1, hp.2.2.1, by rw [e]; exact hp.2.2.2⟩) (fun P a v B hp hq => ?_)
  obtain ⟨L, ⟨q1, q2, q3, q4, q5, q6, q7, ⟨V', v1, v2, v3, v4, v5⟩, q9⟩, hl, hc, hs⟩ := hq
  refine ⟨L, ⟨q1, q2, q3, q4, q5, q6, q7, ⟨V'.cls, v3, V', v1, rfl, by rw [v4, e, hlen], K4, fun i hi => ?_, fun i hi => ?_⟩, q9⟩, hl, hc, by rw [hs, e]⟩
  · have hi' : i < cs.length := by omega
    rw [v5 i (by omega), hcv i hi']; simp [List.getD_eq_getElem?_getD, hi']
  · have hi' : i < cs.length := by omega
    simp only [List.getD_eq_getElem?_getD, List.getElem?_map, List.getElem?_eq_getElem hi', Option.map_some, Option.getD_some]
    exact fits_lo8 _
end StrChars.Road
namespace StrChars.Road
open Jvm Sem ClassFile Op Lib Jvm.Stand Jvm.Free Jvm.Free.XT
/-- WHAT COMES BACK, in the writer's own shape -/
def QV (Z : State) (x : Addr) (N : Int32) (bs : List Int32) (h : Heap) (n0 : Nat) (v : Option Value) (h' : Heap) (L : List Loc) : Prop := v = none ∧ RoadKit.Fr n0 L ∧ RoadKit.Keep h h' [x] ∧ RoadKit.Exa Z h' x ST ∧ RoadKit.Fld Z h' x ST "coder" "B" (.int 0) ∧
  ∃ (t : Addr) (kb : ClassId), n0 ≤ t ∧ h.size ≤ t ∧ ¬ t = x ∧ RoadKit.Fld Z h' x ST "value" "[B" (.ref t) ∧ RoadKit.Arv Z h' t kb .byte N (bs.map Value.int) (.int 0)
/-- **new String(chars) AT A CALL, FOR THE WRITER**: a char[] of n known ints, each 0 to 255 -/
theorem backV {p : Program} {l : Launch} {e : Env} {R : Room} {s : State} {args : Array Value} {below : List Frame} {len W : Nat} {Z : State} {a0 : Array Value} {h : Heap} (hZ : Z.Warmed39 s.vm) (hw : ∀ d ∈ words, d.before a0 Z = true) {kI : Nat} (wi : (Jvm.Cond.instantiable ST kI).before a0 Z = true)
    {x b : Addr} {kC : ClassId} {cs bs : List Int32} {d v0 c0 : Value} {z N : Int32} {n n0 : Nat} (hx0 : n0 ≤ x) (hh0 : n0 ≤ h.size) (E : RoadKit.Exa Z h x ST) (V : RoadKit.Fld Z h x ST "value" "[B" v0) (C : RoadKit.Fld Z h x ST "coder" "B" c0) (K : RoadKit.Arv Z h b kC .char N (cs.map Value.int) d) (S : RoadKit.Sta Z h ST "COMPACT_STRINGS" "Z" (.int z)) (hz : ¬ z = 0)
    (hn : cs.length = n) (hN : N = Int32.ofNat n) (l0 : 0 < n) (l2 : n ≤ 4000) (hp : ∀ c ∈ cs, ¬ c < 0 ∧ ¬ (255 : Int32) < c) (hb : bs = cs.map (fun c => c.toInt8.toInt32)) (hfr : 4 ≤ R.frames) (hlo : W + 65 ≤ R.locals) :
    Back l R p e below s args (⟨"java/lang/String", "<init>", "([C)V"⟩ : MethodName) len W (fun P a => a = #[.ref x, .ref b] ∧ P.U.heap = h ∧ P.cells + 1 ≤ R.cells ∧ P.slots + n ≤ R.slots)
      (fun P _ v B => ∃ L, QV Z x N bs h n0 v B.U.heap L ∧ B.locs = P.locs ++ L ∧ B.cells = P.cells + 1 ∧ B.slots = P.slots + n) := by
  subst hn hN hb
  refine Back.mono (backArv hZ hw wi E V C K S hz (n32 (by omega)) l0 (by omega) (fun c hc => (hp c hc).2) hfr hlo) (fun P a hp => hp) (fun P a v B hp hq => ?_)
  obtain ⟨L, ⟨q1, q2, q3, q4, q5, q6, q7, ⟨kb, v1, v2⟩, q9⟩, hl, hc, hs⟩ := hq
  exact ⟨L, ⟨q1, fun y hy => by rw [q2 y hy]; exact hx0, q3, q5, q7, h.size, kb, hh0, Nat.le_refl _, Nat.ne_of_gt E.lt, q6, by rw [List.map_map]; exact v2⟩, hl, hc, hs⟩
end StrChars.Road
namespace StrChars
open Jvm Sem ClassFile Op Lib Jvm.Stand Jvm.Free.XT Jvm.Free.ALB Jvm.Free.JM Jvm.Free
open Jvm.Lib.Cold (StaticIs)
def hi8 (x : Int32) : Int32 := lo8 (x >>> ((8 : Int32) &&& 31))
/-- what StringUTF16.getChar makes of two bytes -/
def pairCh (u v : Int32) : Int32 := (((u &&& 255) <<< ((0 : Int32) &&& 31)) ||| ((v &&& 255) <<< ((8 : Int32) &&& 31))).toUInt32.toUInt16.toUInt32.toInt32
theorem shr0 (c : Int32) : c >>> ((0 : Int32) &&& 31) = c := by
  have e : ((0 : Int32) &&& 31) = 0 := by decide
  rw [e]
  apply Int32.toBitVec_inj.mp
  rw [Int32.toBitVec_shiftRight]
  have e1 : ((0 : Int32).toBitVec.smod 32) = 0#32 := by decide
  rw [e1, BitVec.sshiftRight_eq']
  exact BitVec.sshiftRight_zero
theorem lo8_and (x : Int32) : (lo8 x &&& 255).toBitVec.toNat = x.toBitVec.toNat % 256 := by
  have h : (lo8 x).toBitVec = (x.toBitVec.signExtend 8).signExtend 32 := by rw [lo8, Int8.toBitVec_toInt32, Int32.toBitVec_toInt8]
  rw [Int32.toBitVec_and, BitVec.toNat_and, h]
  have e : ((x.toBitVec.signExtend 8).signExtend 32).toNat % 256 = x.toBitVec.toNat % 256 := by
    rw [BitVec.toNat_signExtend]
    have hlt := x.toBitVec.isLt
    simp only [BitVec.toNat_setWidth, BitVec.toNat_signExtend]
    split <;> split <;> omega
  rw [← e]
  exact Nat.and_two_pow_sub_one_eq_mod _ 8
theorem pair_says {c : Int32} (h0 : ¬ c < 0) (h1 : ¬ 65535 < c) : pairCh (lo8 c) (hi8 c) = c := by
  rw [Int32.lt_iff_toInt_lt] at h0 h1
  have e0 : (0 : Int32).toInt = 0 := rfl
  have e1 : (65535 : Int32).toInt = 65535 := rfl
  have hc : c.toInt = c.toBitVec.toNat := by
    have := c.toBitVec.isLt
    have e : c.toInt = c.toBitVec.toInt := rfl
    rw [e] at h0 h1
    rw [e]
    rw [BitVec.toInt_eq_toNat_cond] at h0 h1 ⊢
    split at h0 <;> split <;> omega
  have hn : c.toBitVec.toNat < 65536 := by omega
  have a1 := lo8_and c
  have a2 : (hi8 c &&& 255).toBitVec.toNat = c.toBitVec.toNat / 256 := by
    rw [hi8, lo8_and]
    have e : ((8 : Int32) &&& 31) = 8 := by decide
    rw [e, Int32.toBitVec_shiftRight]
    have e2 : ((8 : Int32).toBitVec.smod 32) = 8#32 := by decide
    rw [e2, BitVec.sshiftRight_eq', BitVec.toNat_sshiftRight_of_msb_false (by rw [BitVec.msb_eq_false_iff_two_mul_lt]; omega)]
    show c.toBitVec.toNat >>> 8 % 256 = _
    rw [Nat.shiftRight_eq_div_pow]
    omega
  unfold pairCh
  apply Int32.toBitVec_inj.mp
  apply BitVec.eq_of_toNat_eq
  have f0 : ((0 : Int32) &&& 31) = 0 := by decide
  have f8 : ((8 : Int32) &&& 31) = 8 := by decide
  rw [f0, f8]
  have g : (((lo8 c &&& 255) <<< (0 : Int32)) ||| ((hi8 c &&& 255) <<< (8 : Int32))).toBitVec.toNat = c.toBitVec.toNat := by
    rw [Int32.toBitVec_or, Int32.toBitVec_shiftLeft, Int32.toBitVec_shiftLeft]
    have s0 : ((0 : Int32).toBitVec.smod 32) = 0#32 := by decide
    have s8 : ((8 : Int32).toBitVec.smod 32) = 8#32 := by decide
    rw [s0, s8, BitVec.toNat_or]
    simp only [BitVec.shiftLeft_eq', BitVec.toNat_shiftLeft, a1, a2]
    show (c.toBitVec.toNat % 256) <<< 0 % 2 ^ 32 ||| (c.toBitVec.toNat / 256) <<< 8 % 2 ^ 32 = _
    rw [Nat.shiftLeft_zero, Nat.mod_eq_of_lt (show c.toBitVec.toNat % 256 < 2 ^ 32 by omega), Nat.mod_eq_of_lt (show (c.toBitVec.toNat / 256) <<< 8 < 2 ^ 32 by rw [Nat.shiftLeft_eq]; omega), Nat.or_comm, ← Nat.shiftLeft_add_eq_or_of_lt (by omega), Nat.shiftLeft_eq]
    omega
  show BitVec.toNat (((((lo8 c &&& 255) <<< (0 : Int32)) ||| ((hi8 c &&& 255) <<< (8 : Int32))).toBitVec.setWidth 16).setWidth 32) = _
  rw [BitVec.toNat_setWidth, BitVec.toNat_setWidth, g]
  omega
end StrChars
namespace StrChars
open Jvm Sem ClassFile Op Lib Jvm.Stand Jvm.Free.XT Jvm.Free.ALB Jvm.Free.JM Jvm.Free
open Jvm.Lib.Cold (StaticIs)
theorem shr1 {n : Nat} (h : 2 * n < 2 ^ 31) : Int32.ofNat (2 * n) >>> ((1 : Int32) &&& 31) = Int32.ofNat n := by
  have e : ((1 : Int32) &&& 31) = 1 := by decide
  rw [e]
  apply Int32.toBitVec_inj.mp
  rw [Int32.toBitVec_shiftRight]
  have e1 : ((1 : Int32).toBitVec.smod 32) = 1#32 := by decide
  have hm : (BitVec.ofNat 32 (2 * n)).toNat = 2 * n := by rw [BitVec.toNat_ofNat, Nat.mod_eq_of_lt (by omega)]
  rw [e1, BitVec.sshiftRight_eq']
  apply BitVec.eq_of_toNat_eq
  show ((BitVec.ofNat 32 (2 * n)).sshiftRight 1).toNat = (BitVec.ofNat 32 n).toNat
  rw [BitVec.toNat_sshiftRight_of_msb_false (by rw [BitVec.msb_eq_false_iff_two_mul_lt, hm]; omega), hm, BitVec.toNat_ofNat, Nat.shiftRight_eq_div_pow]
  omega
/-- charAt's cast of a byte read back -/
def chr8 (u : Int32) : Int32 := (u &&& 255).toUInt32.toUInt16.toUInt32.toInt32
theorem chr8_lo8 {c : Int32} (h0 : ¬ c < 0) (h1 : ¬ 255 < c) : chr8 (lo8 c) = c := by
  have t : ∀ k : Fin 256, (Int32.ofNat k.val).toUInt32.toUInt16.toUInt32.toInt32 = Int32.ofNat k.val := by decide +kernel
  unfold chr8
  rw [lo8_mask h0 h1]
  rw [Int32.lt_iff_toInt_lt] at h0 h1
  have e0 : (0 : Int32).toInt = 0 := rfl
  have e1 : (255 : Int32).toInt = 255 := rfl
  obtain ⟨k, hk⟩ : ∃ k : Nat, c.toInt = k := ⟨c.toInt.toNat, by omega⟩
  have hx : c = Int32.ofNat k := Int32.toInt_inj.mp (by rw [hk, Int32.toInt_ofNat_small (by omega)])
  rw [hx]
  exact t ⟨k, by omega⟩
theorem narrow_ch {c : Int32} (h0 : ¬ c < 0) (h1 : ¬ 65535 < c) : narrow .char (.int c) = .int c := by
  have q : narrow .char (.int (pairCh (lo8 c) (hi8 c))) = .int (pairCh (lo8 c) (hi8 c)) := narrow_c _
  rwa [pair_says h0 h1] at q
/-- the array's cell V codes the n chars f 0 .. f (n - 1) by the coder cd, as the JDK does: coder 1 just where some char is above 255 -/
def Cod (cd : Int32) (n : Nat) (f : Nat → Int32) (V : Cell) : Prop := (cd = 0 ∧ V.slots.size = n ∧ ∀ j, j < n → V.slots[j]? = some (.int (lo8 (f j))) ∧ ¬ 255 < f j) ∨ (cd = 1 ∧ V.slots.size = 2 * n ∧ (∀ j, j < n → V.slots[2 * j]? = some (.int (lo8 (f j))) ∧ V.slots[2 * j + 1]? = some (.int (hi8 (f j)))) ∧ ∃ j, j < n ∧ 255 < f j)
theorem Cod.cd {cd : Int32} {n : Nat} {f : Nat → Int32} {V : Cell} (h : Cod cd n f V) : cd = 0 ∨ cd = 1 := h.imp (fun q => q.1) fun q => q.1
theorem Cod.len {cd : Int32} {n : Nat} {f : Nat → Int32} {V : Cell} (h : Cod cd n f V) (hs : V.slots.size < 2 ^ 31) : Int32.ofNat V.slots.size >>> (cd &&& 31) = Int32.ofNat n := by
  rcases h with ⟨rfl, h, -⟩ | ⟨rfl, h, -⟩
  · rw [shr0, h]
  · rw [h, shr1 (by omega)]
/-- **x is a String of the n chars f 0 .. f (n - 1)**, Latin-1 or UTF-16; its array at t has the cell V -/
def Txt (x t : Addr) (V : Cell) (cd : Int32) (n : Nat) (f : Nat → Int32) (U : State) : Prop := Exact "java/lang/String" x U ∧ Has x "java/lang/String" "value" "[B" (.ref t) U ∧ Has x "java/lang/String" "coder" "B" (.int cd) U ∧ XT.Arr .byte t V U ∧ Cod cd n f V ∧ ∀ j, j < n → ¬ f j < 0 ∧ ¬ 65535 < f j
theorem Txt.mv {x t : Addr} {V : Cell} {cd : Int32} {n : Nat} {f : Nat → Int32} {U U' : State} (h : Txt x t V cd n f U) (hal : U.vm.Alike U'.vm) (hh : U'.heap = U.heap) : Txt x t V cd n f U' := ⟨h.1.mv hal hh, h.2.1.mv hal hh, h.2.2.1.mv hal hh, h.2.2.2.1.mv hal hh, h.2.2.2.2⟩
namespace Cdr
def yN : MethodName := ⟨"java/lang/String", "coder", "()B"⟩
abbrev yB : ByteArray := jdk_42_method_152_code
theorem d0 : decode yB 0 = .ok (.getstatic 38, 3) := by decide +kernel
theorem d3 : decode yB 3 = .ok (.ifCond (.eq) 10, 3) := by decide +kernel
theorem d6 : decode yB 6 = .ok (.aload_n 0, 1) := by decide +kernel
theorem d7 : decode yB 7 = .ok (.getfield 15, 3) := by decide +kernel
theorem d10 : decode yB 10 = .ok (.goto 4, 3) := by decide +kernel
theorem d14 : decode yB 14 = .ok (.ireturn, 1) := by decide +kernel
def site : List Cond := [.fieldLink "java/lang/String" 38 "java/lang/String" "COMPACT_STRINGS" "Z", .fieldLink "java/lang/String" 15 "java/lang/String" "coder" "B"]
def tab : Cond := tabOf yN yB 1 (some .byte) site
def P (x : Addr) (cd z : Int32) (args : Array Value) (s : State) : Prop := args = #[.ref x] ∧ Has x "java/lang/String" "coder" "B" (.int cd) s ∧ (cd = 0 ∨ cd = 1) ∧ StaticIs s "java/lang/String" "COMPACT_STRINGS" "Z" (.int z) ∧ ¬ z = 0
def E (cd : Int32) (r : Option Value) (s u : State) : Prop := XT.PureE (some (.int cd)) r s u
theorem law (l : Launch) (x : Addr) (cd z : Int32) : Law l yN 1 0 0 0 yB 1 (some .byte) site (P x cd z) (E cd) [] 0 0 := by
  refine Law.of_walk (plainFor_of_name (by decide +kernel)) (by decide +kernel) (by decide +kernel) (by decide) (fun _ _ h => by rw [h.1]; rfl) (fun _ U U' hal hh h => ⟨h.1, h.2.1.mv hal hh, h.2.2.1, h.2.2.2.1.there hal hh, h.2.2.2.2⟩) (fun r U U' V V' h1 hal h2 h => XT.PureE.mv r U U' V V' h1 hal h2 h) ?_
  intro p e s m args below meth c s₁ X0 hexec hbytes hml hret hlk hnm hown hh0 W hP
  obtain ⟨rfl, hx, hc, s1, hz⟩ := hP
  have c1 : Steps p.tables e below (s₁.setTop (entryFrame m #[.ref x] 1)) (s₁.setTop (mkF m 0 #[.val (.ref x)] [])) := entry rfl
  obtain ⟨T2, X2, q2, st2⟩ := X0.sget hexec hown (wk W (.fieldLink "java/lang/String" 38 "java/lang/String" "COMPACT_STRINGS" "Z")) s1 (fun _ _ h => by rw [hh0]; exact h) (g := (mkF m 0 #[.val (.ref x)] [])) rfl (hb hbytes d0)
  have hh2 := q2.trans hh0
  have c3 : Steps p.tables e below (s₁.setTop (entryFrame m #[.ref x] 1)) (T2.setTop (mkF m 7 #[.val (.ref x)] [.ref x])) := (c1.trans (st2 _ (Steps.refl _))).trans (by
    refine XS.ifNo X2.here hexec rfl (hb hbytes d3) rfl (i0_eq_f hz) ?_
    refine XS.aloadN X2.here hexec rfl (hb hbytes d6) rfl rfl ?_
    exact Steps.refl _)
  obtain ⟨T4, X4, q4, st4⟩ := X2.hget hexec hown (wk W (.fieldLink "java/lang/String" 15 "java/lang/String" "coder" "B")) (hx.mv X2.warmed.alike hh2) (g := (mkF m 7 #[.val (.ref x)] [.ref x])) rfl (rest := []) rfl (hb hbytes d7)
  have c5 : Steps p.tables e below (s₁.setTop (entryFrame m #[.ref x] 1)) (T4.setTop (mkF m 14 #[.val (.ref x)] [.int cd])) := (c3.trans (st4 _ (Steps.refl _))).trans (by
    refine XS.goto X4.here hexec rfl (pc0 := 10) rfl (hb hbytes d10) (by decide) rfl ?_
    exact Steps.refl _)
  exact ⟨T4, some (.int cd), _, _, _, X4, rfl, rfl, rfl, (fun h => by cases h), ⟨rfl, q4.trans hh2⟩, fun fs hl => c5.trans (X4.ireturnOut hexec hret (by rcases hc with rfl | rfl <;> rfl) (Or.inr (Or.inr (Or.inl rfl))) (hb hbytes d14) hl)⟩
end Cdr
namespace Len
def yN : MethodName := ⟨"java/lang/String", "length", "()I"⟩
abbrev yB : ByteArray := jdk_42_method_54_code
theorem d0 : decode yB 0 = .ok (.aload_n 0, 1) := by decide +kernel
theorem d1 : decode yB 1 = .ok (.getfield 9, 3) := by decide +kernel
theorem d4 : decode yB 4 = .ok (.arraylength, 1) := by decide +kernel
theorem d5 : decode yB 5 = .ok (.aload_n 0, 1) := by decide +kernel
theorem d6 : decode yB 6 = .ok (.invokevirtual 335, 3) := by decide +kernel
theorem d9 : decode yB 9 = .ok (.ishr, 1) := by decide +kernel
theorem d10 : decode yB 10 = .ok (.ireturn, 1) := by decide +kernel
def site : List Cond := [.fieldLink "java/lang/String" 9 "java/lang/String" "value" "[B", Cdr.tab] ++ virtW "java/lang/String" 335 "java/lang/String" Cdr.yN Cdr.yN
def tab : Cond := tabOf yN yB 1 (some .int) site
def P (x t : Addr) (V : Cell) (cd : Int32) (n : Nat) (f : Nat → Int32) (z : Int32) (args : Array Value) (s : State) : Prop := args = #[.ref x] ∧ Txt x t V cd n f s ∧ StaticIs s "java/lang/String" "COMPACT_STRINGS" "Z" (.int z) ∧ ¬ z = 0
def E (n : Nat) (r : Option Value) (s u : State) : Prop := XT.PureE (some (.int (Int32.ofNat n))) r s u
/-- length() of a String of n chars, in either coding -/
theorem law (l : Launch) (x t : Addr) (V : Cell) (cd : Int32) (n : Nat) (f : Nat → Int32) (z : Int32) : Law l yN 1 0 1 13 yB 1 (some .int) site (P x t V cd n f z) (E n) [] 0 0 := by
  refine Law.of_walk (plainFor_of_name (by decide +kernel)) (by decide +kernel) (by decide +kernel) (by decide) (fun _ _ h => by rw [h.1]; rfl) (fun _ U U' hal hh h => ⟨h.1, h.2.1.mv hal hh, h.2.2.1.there hal hh, h.2.2.2⟩) (fun r U U' V V' h1 hal h2 h => XT.PureE.mv r U U' V V' h1 hal h2 h) ?_
  intro p e s m args below meth c s₁ X0 hexec hbytes hml hret hlk hnm hown hh0 W hP
  obtain ⟨rfl, hx, s1, hz⟩ := hP
  have v31 := hx.2.2.2.1.2.2.2
  have c1 : Steps p.tables e below (s₁.setTop (entryFrame m #[.ref x] 1)) (s₁.setTop (mkF m 1 #[.val (.ref x)] [.ref x])) := Steps.trans (entry rfl) (by
    show Steps p.tables e below (s₁.setTop (mkF m 0 #[.val (.ref x)] [])) _
    refine XS.aloadN X0.here hexec rfl (hb hbytes d0) rfl rfl ?_
    exact Steps.refl _)
  obtain ⟨T2, X2, q2, st2⟩ := X0.hget hexec hown (wk W (.fieldLink "java/lang/String" 9 "java/lang/String" "value" "[B")) (hx.mv X0.warmed.alike hh0).2.1 (g := (mkF m 1 #[.val (.ref x)] [.ref x])) rfl (rest := []) rfl (hb hbytes d1)
  have hh2 := q2.trans hh0
  have hx2 := hx.mv X2.warmed.alike hh2
  have c3 : Steps p.tables e below (s₁.setTop (entryFrame m #[.ref x] 1)) (T2.setTop (mkF m 6 #[.val (.ref x)] [.ref x, .int (Int32.ofNat V.slots.size)])) := (c1.trans (st2 _ (Steps.refl _))).trans (by
    refine X2.alen hexec hx2.2.2.2.1 rfl rfl (hb hbytes d4) ?_
    refine XS.aloadN X2.here hexec rfl (hb hbytes d5) rfl rfl ?_
    exact Steps.refl _)
  obtain ⟨v4, T4, X4, E4, g4⟩ := X2.callV hexec (Cdr.law l x cd z) hown (wks W (virtW "java/lang/String" 335 "java/lang/String" Cdr.yN Cdr.yN)) rfl (by decide) (wk W Cdr.tab) (W := 1) (Nat.le_of_ble_eq_true rfl) (Nat.le_of_ble_eq_true rfl) (Nat.le_refl _) (Nat.le_refl _) (hx2.1.fc X2.warmed.alike) hx2.1.is (g := (mkF m 6 #[.val (.ref x)] [.ref x, .int (Int32.ofNat V.slots.size)])) rfl (by rw [hml]; rfl) c3 (argsL := []) (rest := [.int (Int32.ofNat V.slots.size)]) rfl rfl (by show 2 * 0 + (1 + 0) ≤ _; decide) (hb hbytes d6) (⟨rfl, hx2.2.2.1, hx.2.2.2.2.1.cd, s1.there X2.warmed.alike hh2, hz⟩)
  obtain ⟨rfl, q4⟩ := E4
  have c5 : Steps p.tables e below (s₁.setTop (entryFrame m #[.ref x] 1)) (T4.setTop (mkF m 10 #[.val (.ref x)] [.int (Int32.ofNat V.slots.size >>> (cd &&& 31))])) := Steps.trans g4 (by
    refine ishr X4.here hexec rfl (hb hbytes d9) rfl ?_
    exact Steps.refl _)
  rw [hx.2.2.2.2.1.len v31] at c5
  exact ⟨T4, some (.int (Int32.ofNat n)), _, _, _, X4, rfl, rfl, rfl, (fun h => by cases h), ⟨rfl, q4.trans hh2⟩, fun fs hl => c5.trans (X4.ireturnOut hexec hret rfl (Or.inl rfl) (hb hbytes d10) hl)⟩
theorem pays {l : Launch} {R : Room} {p : Program} {e : Env} {below : List Frame} {s : State} {sargs : Array Value} {len W : Nat} (x t : Addr) (V : Cell) (cd : Int32) (n : Nat) (f : Nat → Int32) (z : Int32) (htab : tab.before sargs s = true) (hfr : 2 ≤ R.frames) (hlo : W + 25 ≤ R.locals) :
    Back l R p e below s sargs yN len W (fun A₁ a₁ => A₁.cells + 0 ≤ R.cells ∧ A₁.slots + 0 ≤ R.slots ∧ P x t V cd n f z a₁ A₁.U) (fun A₁ _ v₁ B₁ => E n v₁ A₁.U B₁.U ∧ B₁.locs = A₁.locs ++ [] ∧ B₁.cells = A₁.cells + 0 ∧ B₁.slots = A₁.slots + 0) :=
  (law l x t V cd n f z).pays htab hfr (by omega)
end Len
namespace IsL
def yN : MethodName := ⟨"java/lang/String", "isLatin1", "()Z"⟩
abbrev yB : ByteArray := jdk_42_method_154_code
theorem d0 : decode yB 0 = .ok (.getstatic 38, 3) := by decide +kernel
theorem d3 : decode yB 3 = .ok (.ifCond (.eq) 14, 3) := by decide +kernel
theorem d6 : decode yB 6 = .ok (.aload_n 0, 1) := by decide +kernel
theorem d7 : decode yB 7 = .ok (.getfield 15, 3) := by decide +kernel
theorem d10 : decode yB 10 = .ok (.ifCond (.ne) 7, 3) := by decide +kernel
theorem d13 : decode yB 13 = .ok (.iconst 1, 1) := by decide +kernel
theorem d14 : decode yB 14 = .ok (.goto 4, 3) := by decide +kernel
theorem d17 : decode yB 17 = .ok (.iconst 0, 1) := by decide +kernel
theorem d18 : decode yB 18 = .ok (.ireturn, 1) := by decide +kernel
def site : List Cond := [.fieldLink "java/lang/String" 38 "java/lang/String" "COMPACT_STRINGS" "Z", .fieldLink "java/lang/String" 15 "java/lang/String" "coder" "B"]
def tab : Cond := tabOf yN yB 1 (some .boolean) site
def P (x : Addr) (cd z : Int32) (args : Array Value) (s : State) : Prop := args = #[.ref x] ∧ Has x "java/lang/String" "coder" "B" (.int cd) s ∧ (cd = 0 ∨ cd = 1) ∧ StaticIs s "java/lang/String" "COMPACT_STRINGS" "Z" (.int z) ∧ ¬ z = 0
def E (cd : Int32) (r : Option Value) (s u : State) : Prop := XT.PureE (some (.int (1 - cd))) r s u
theorem law (l : Launch) (x : Addr) (cd z : Int32) : Law l yN 1 0 0 0 yB 1 (some .boolean) site (P x cd z) (E cd) [] 0 0 := by
  refine Law.of_walk (plainFor_of_name (by decide +kernel)) (by decide +kernel) (by decide +kernel) (by decide) (fun _ _ h => by rw [h.1]; rfl) (fun _ U U' hal hh h => ⟨h.1, h.2.1.mv hal hh, h.2.2.1, h.2.2.2.1.there hal hh, h.2.2.2.2⟩) (fun r U U' V V' h1 hal h2 h => XT.PureE.mv r U U' V V' h1 hal h2 h) ?_
  intro p e s m args below meth c s₁ X0 hexec hbytes hml hret hlk hnm hown hh0 W hP
  obtain ⟨rfl, hx, hc, s1, hz⟩ := hP
  have c1 : Steps p.tables e below (s₁.setTop (entryFrame m #[.ref x] 1)) (s₁.setTop (mkF m 0 #[.val (.ref x)] [])) := entry rfl
  obtain ⟨T2, X2, q2, st2⟩ := X0.sget hexec hown (wk W (.fieldLink "java/lang/String" 38 "java/lang/String" "COMPACT_STRINGS" "Z")) s1 (fun _ _ h => by rw [hh0]; exact h) (g := (mkF m 0 #[.val (.ref x)] [])) rfl (hb hbytes d0)
  have hh2 := q2.trans hh0
  have c3 : Steps p.tables e below (s₁.setTop (entryFrame m #[.ref x] 1)) (T2.setTop (mkF m 7 #[.val (.ref x)] [.ref x])) := (c1.trans (st2 _ (Steps.refl _))).trans (by
    refine XS.ifNo X2.here hexec rfl (hb hbytes d3) rfl (i0_eq_f hz) ?_
    refine XS.aloadN X2.here hexec rfl (hb hbytes d6) rfl rfl ?_
    exact Steps.refl _)
  obtain ⟨T4, X4, q4, st4⟩ := X2.hget hexec hown (wk W (.fieldLink "java/lang/String" 15 "java/lang/String" "coder" "B")) (hx.mv X2.warmed.alike hh2) (g := (mkF m 7 #[.val (.ref x)] [.ref x])) rfl (rest := []) rfl (hb hbytes d7)
  have c5 : Steps p.tables e below (s₁.setTop (entryFrame m #[.ref x] 1)) (T4.setTop (mkF m 10 #[.val (.ref x)] [.int cd])) := c3.trans (st4 _ (Steps.refl _))
  have c6 : Steps p.tables e below (s₁.setTop (entryFrame m #[.ref x] 1)) (T4.setTop (mkF m 18 #[.val (.ref x)] [.int (1 - cd)])) := by
    rcases hc with rfl | rfl
    · exact c5.trans (by
        refine XS.ifNo X4.here hexec rfl (hb hbytes d10) rfl (i0_ne_f rfl) ?_
        refine iconstV X4.here hexec rfl 1 (hb hbytes d13) (by decide) ?_
        refine XS.goto X4.here hexec rfl (pc0 := 14) rfl (hb hbytes d14) (by decide) rfl ?_
        exact Steps.refl _)
    · exact c5.trans (by
        refine XS.ifYes X4.here hexec rfl (pc0 := 10) rfl (hb hbytes d10) rfl (i0_ne_t (by decide)) (by decide) rfl ?_
        refine iconstV X4.here hexec rfl 0 (hb hbytes d17) (by decide) ?_
        exact Steps.refl _)
  exact ⟨T4, some (.int (1 - cd)), _, _, _, X4, rfl, rfl, rfl, (fun h => by cases h), ⟨rfl, q4.trans hh2⟩, fun fs hl => c6.trans (X4.ireturnOut hexec hret (by rcases hc with rfl | rfl <;> rfl) (Or.inr (Or.inl rfl)) (hb hbytes d18) hl)⟩
end IsL
namespace LChA
def yN : MethodName := ⟨"java/lang/StringLatin1", "charAt", "([BI)C"⟩
abbrev yB : ByteArray := jdk_43_method_2_code
theorem d0 : decode yB 0 = .ok (.iload_n 1, 1) := by decide +kernel
theorem d1 : decode yB 1 = .ok (.aload_n 0, 1) := by decide +kernel
theorem d2 : decode yB 2 = .ok (.arraylength, 1) := by decide +kernel
theorem d3 : decode yB 3 = .ok (.invokestatic 9, 3) := by decide +kernel
theorem d6 : decode yB 6 = .ok (.aload_n 0, 1) := by decide +kernel
theorem d7 : decode yB 7 = .ok (.iload_n 1, 1) := by decide +kernel
theorem d8 : decode yB 8 = .ok (.baload, 1) := by decide +kernel
theorem d9 : decode yB 9 = .ok (.sipush 255, 3) := by decide +kernel
theorem d12 : decode yB 12 = .ok (.iand, 1) := by decide +kernel
theorem d13 : decode yB 13 = .ok (.i2c, 1) := by decide +kernel
theorem d14 : decode yB 14 = .ok (.ireturn, 1) := by decide +kernel
def site : List Cond := [JO.Str_checkIndex.tab] ++ staticW "java/lang/StringLatin1" 9 JO.Str_checkIndex.yN
def tab : Cond := tabOf yN yB 2 (some .char) site
def P (t : Addr) (V : Cell) (i : Nat) (u : Int32) (fm : Value) (args : Array Value) (s : State) : Prop := args = #[.ref t, .int (Int32.ofNat i)] ∧ XT.Arr .byte t V s ∧ V.slots[i]? = some (.int u) ∧ (StaticIs s "jdk/internal/util/Preconditions" "SIOOBE_FORMATTER" "Ljava/util/function/BiFunction;" fm ∧ fm.isRef = true)
def E (u : Int32) (r : Option Value) (s w : State) : Prop := XT.PureE (some (.int (chr8 u))) r s w
theorem law (l : Launch) (t : Addr) (V : Cell) (i : Nat) (u : Int32) (fm : Value) : Law l yN 2 2 2 27 yB 2 (some .char) site (P t V i u fm) (E u) [] 0 0 := by
  refine Law.of_walk (plainFor_of_name (by decide +kernel)) (by decide +kernel) (by decide +kernel) (by decide) (fun _ _ h => by rw [h.1]; rfl) (fun _ U U' hal hh h => ⟨h.1, h.2.1.mv hal hh, h.2.2.1, h.2.2.2.1.there hal hh, h.2.2.2.2⟩) (fun r U U' V V' h1 hal h2 h => XT.PureE.mv r U U' V V' h1 hal h2 h) ?_
  intro p e s m args below meth c s₁ X0 hexec hbytes hml hret hlk hnm hown hh0 W hP
  obtain ⟨rfl, hV, hu, s1, rf⟩ := hP
  have v31 := hV.2.2.2
  have hi : i < V.slots.size := (Array.getElem?_eq_some_iff.mp hu).1
  have c1 : Steps p.tables e below (s₁.setTop (entryFrame m #[.ref t, .int (Int32.ofNat i)] 2)) (s₁.setTop (mkF m 0 #[.val (.ref t), .val (.int (Int32.ofNat i))] [])) := entry rfl
  have c2 : Steps p.tables e below (s₁.setTop (entryFrame m #[.ref t, .int (Int32.ofNat i)] 2)) (s₁.setTop (mkF m 3 #[.val (.ref t), .val (.int (Int32.ofNat i))] [.int (Int32.ofNat V.slots.size), .int (Int32.ofNat i)])) := c1.trans (by
    refine XS.iloadN X0.here hexec rfl (hb hbytes d0) rfl ?_
    refine XS.aloadN X0.here hexec rfl (hb hbytes d1) rfl rfl ?_
    refine X0.alen hexec (hV.mv X0.warmed.alike hh0) rfl rfl (hb hbytes d2) ?_
    exact Steps.refl _)
  obtain ⟨v3, T3, X3, E3, g3⟩ := X0.callS hexec (JO.Str_checkIndex.law l (Int32.ofNat i) (Int32.ofNat V.slots.size) fm) hown (wks W (staticW "java/lang/StringLatin1" 9 JO.Str_checkIndex.yN)) (wk W JO.Str_checkIndex.tab) (W := 0) (Nat.le_of_ble_eq_true rfl) (Nat.le_of_ble_eq_true rfl) (Nat.le_refl _) (Nat.le_refl _) (g := (mkF m 3 #[.val (.ref t), .val (.int (Int32.ofNat i))] [.int (Int32.ofNat V.slots.size), .int (Int32.ofNat i)])) rfl (by rw [hml]; rfl) c2 (argsL := [.int (Int32.ofNat i), .int (Int32.ofNat V.slots.size)]) (rest := []) rfl rfl (by show 2 * 0 + 0 ≤ _; decide) (hb hbytes d3) (⟨rfl, rf, s1.there X0.warmed.alike hh0, Int32.ofNat_not_neg (by omega), lt32 v31 hi⟩)
  obtain ⟨rfl, q3⟩ := E3
  have hh3 := q3.trans hh0
  have c4 : Steps p.tables e below (s₁.setTop (entryFrame m #[.ref t, .int (Int32.ofNat i)] 2)) (T3.setTop (mkF m 14 #[.val (.ref t), .val (.int (Int32.ofNat i))] [.int (chr8 u)])) := Steps.trans g3 (by
    refine XS.aloadN X3.here hexec rfl (hb hbytes d6) rfl rfl ?_
    refine XS.iloadN X3.here hexec rfl (hb hbytes d7) rfl ?_
    refine X3.aget hexec (hV.mv X3.warmed.alike hh3) rfl hu rfl rfl (hb hbytes d8) ?_
    refine sipushV X3.here hexec rfl 255 (hb hbytes d9) (by decide) ?_
    refine XS.iand X3.here hexec rfl (hb hbytes d12) rfl ?_
    refine i2c X3.here hexec rfl (hb hbytes d13) rfl ?_
    exact Steps.refl _)
  exact ⟨T3, some (.int (chr8 u)), _, _, _, X3, rfl, rfl, rfl, (fun h => by cases h), ⟨rfl, hh3⟩, fun fs hl => c4.trans (X3.ireturnOut hexec hret (narrow_c _) (Or.inr (Or.inr (Or.inr (Or.inl rfl)))) (hb hbytes d14) hl)⟩
end LChA
end StrChars
namespace StrChars.Road
open Jvm Sem ClassFile Op Lib Jvm.Stand Jvm.Free Jvm.Free.XT
open Jvm.Lib.Cold (StaticIs)
theorem consq {a : Array Value} {s : State} {c : Jvm.Cond} {L : List Jvm.Cond} (h0 : c.before a s = true) (h : ∀ w ∈ L, w.before a s = true) : ∀ w ∈ c :: L, w.before a s = true := fun w hw => (List.mem_cons.mp hw).elim (fun e => e ▸ h0) (h w)
/-- the words of String.length(), either coding -/
abbrev wordsLen : List Jvm.Cond := [.code Len.yN Len.yB 1 (some .int), .initialized ST, .fieldLink ST 9 ST "value" "[B", .fieldLink ST 38 ST "COMPACT_STRINGS" "Z", .fieldLink ST 15 ST "coder" "B", .code Cdr.yN Cdr.yB 1 (some .byte), .methodLink ST 335 Cdr.yN, .declares Cdr.yN, .selects ST Cdr.yN Cdr.yN, .instanceMethod Cdr.yN]
theorem tabLen_of {a : Array Value} {s : State} (h : ∀ w ∈ wordsLen, w.before a s = true) : Len.tab.before a s = true := by
  have hc : Cdr.tab.before a s = true := unparts (wk h (.code Cdr.yN Cdr.yB 1 (some .byte))) (wks h (.initialized Cdr.yN.cls :: Cdr.site))
  have q := consq hc h
  exact unparts (wk q (.code Len.yN Len.yB 1 (some .int))) (wks q (.initialized Len.yN.cls :: Len.site))
theorem movedLen {Z s : State} {a0 args : Array Value} (hZ : Z.Warmed39 s.vm) (hw : ∀ d ∈ wordsLen, d.before a0 Z = true) : ∀ d ∈ wordsLen, d.before args s = true := fun d hd => by
  have q := hw d hd
  have t : ∀ d ∈ wordsLen, d = .arrayClass .byte ∨ (d.onTables && d.keepsFace) = true := by decide +kernel
  rcases t d hd with rfl | t
  · exact RoadKit.mvA hZ q
  · exact RoadKit.mv hZ q t
/-- the bytes of the chars cs, low before high -/
def wideBytes : List Int32 → List Value
  | [] => []
  | c :: cs => .int (lo8 c) :: .int (hi8 c) :: wideBytes cs
theorem wide_lo (d : Value) : ∀ (cs : List Int32) (j : Nat), j < cs.length → (wideBytes cs).getD (2 * j) d = .int (lo8 (cs.getD j 0))
  | [], j, h => absurd h (Nat.not_lt_zero j)
  | c :: cs, 0, _ => rfl
  | c :: cs, j + 1, h => by
    have q := wide_lo d cs j (by simpa using h)
    rw [show 2 * (j + 1) = 2 * j + 1 + 1 from by omega]
    simpa [wideBytes] using q
theorem wide_hi (d : Value) : ∀ (cs : List Int32) (j : Nat), j < cs.length → (wideBytes cs).getD (2 * j + 1) d = .int (hi8 (cs.getD j 0))
  | [], j, h => absurd h (Nat.not_lt_zero j)
  | c :: cs, 0, _ => rfl
  | c :: cs, j + 1, h => by
    have q := wide_hi d cs j (by simpa using h)
    rw [show 2 * (j + 1) + 1 = 2 * j + 1 + 1 + 1 from by omega]
    simpa [wideBytes] using q
theorem low_at (d : Value) (cs : List Int32) (j : Nat) (h : j < cs.length) : (cs.map fun c => Value.int (lo8 c)).getD j d = .int (lo8 (cs.getD j 0)) := by
  simp [List.getD_eq_getElem?_getD, h]
/-- an array of N2 bytes vs codes the chars cs by the coder cd -/
def CodA (cs : List Int32) (cd N2 : Int32) (vs : List Value) : Prop := (cd = 0 ∧ N2 = Int32.ofNat cs.length ∧ vs = (cs.map fun c => Value.int (lo8 c)) ∧ ∀ c ∈ cs, ¬ 255 < c) ∨ (cd = 1 ∧ N2 = Int32.ofNat (2 * cs.length) ∧ vs = wideBytes cs ∧ ∃ c ∈ cs, 255 < c)
theorem CodA.cod {cs : List Int32} {cd N2 : Int32} {vs : List Value} {V : Cell} (h : CodA cs cd N2 vs) (hn : 2 * cs.length < 2 ^ 31) (hs : V.slots.size = N2.toNatClampNeg) (hv : RoadKit.Has V vs (.int 0)) : Cod cd cs.length (fun j => cs.getD j 0) V := by
  rcases h with ⟨rfl, rfl, rfl, h⟩ | ⟨rfl, rfl, rfl, c, hc, hw⟩
  · rw [n32 (by omega)] at hs
    exact Or.inl ⟨rfl, hs, fun j hj => ⟨by rw [hv j (by omega), low_at _ _ _ hj], by
      have e : cs.getD j 0 = cs[j] := by simp [List.getD_eq_getElem?_getD, hj]
      show ¬ 255 < cs.getD j 0
      rw [e]; exact h _ (List.getElem_mem _)⟩⟩
  · rw [n32 (by omega)] at hs
    obtain ⟨j, hj, rfl⟩ := List.getElem_of_mem hc
    exact Or.inr ⟨rfl, hs, fun j hj => ⟨by rw [hv _ (by omega), wide_lo _ _ _ hj], by rw [hv _ (by omega), wide_hi _ _ _ hj]⟩, j, hj, by
      have e : cs.getD j 0 = cs[j] := by simp [List.getD_eq_getElem?_getD, hj]
      show 255 < cs.getD j 0
      rw [e]; exact hw⟩
/-- an object of exactly java/lang/String, its two fields found: as the laws ask it -/
theorem strObj {Z U : State} {a0 : Array Value} {kI : Nat} (wi : (Jvm.Cond.instantiable ST kI).before a0 Z = true) (al : Z.vm.Alike U.vm) {x : Addr} {v0 c0 : Value} (E : RoadKit.Exa Z U.heap x ST) (V : RoadKit.Fld Z U.heap x ST "value" "[B" v0) (C : RoadKit.Fld Z U.heap x ST "coder" "B" c0) :
    ∃ (D : Cell) (fV fC : Field), Blank ST x D U ∧ Found ST "value" "[B" fV U ∧ Found ST "coder" "B" fC U ∧ D.slots[fV.slot]? = some v0 ∧ D.slots[fC.slot]? = some c0 ∧ RoadKit.slotOf Z ST "value" "[B" = fV.slot ∧ RoadKit.slotOf Z ST "coder" "B" = fC.slot := by
  obtain ⟨D, cfV, kV, iV, fV, hD, gV, stV, knV, obV, asV, slV⟩ := V
  obtain ⟨D', cfC, kC, iC, fC, hD', gC, stC, -, -, asC, slC⟩ := C
  cases hD.symm.trans hD'
  obtain ⟨D2, kD, e1, e2, e3, e4, e5⟩ := E
  cases hD.symm.trans e1
  obtain ⟨c2, k2, i1, i2, i3, -⟩ := Cond.instantiable_spec wi
  cases e2.symm.trans i1
  cases e3.symm.trans i2
  obtain ⟨kU, u1, u2⟩ := al.2.2 _ _ e3
  exact ⟨D, fV, fC, ⟨hD, ⟨knV, fun q hq => by rw [hq] at obV; cases obV⟩, by rw [al.findClass]; exact e2, kU, u1, by rw [u2]; exact i3, by rw [u2]; exact e5 i3⟩, ⟨SBG.found_only al ⟨cfV, kV, iV, gV⟩, stV⟩, ⟨SBG.found_only al ⟨cfC, kC, iC, gC⟩, stC⟩, slV, slC, by simp [RoadKit.slotOf, gV], by simp [RoadKit.slotOf, gC]⟩
theorem sta_is {Z U : State} (al : Z.vm.Alike U.vm) {C n d : String} {v : Value} (S : RoadKit.Sta Z U.heap C n d v) : StaticIs U C n d v := by
  obtain ⟨cfS, iS, kS, fS, st, cS, t1, t2, t3, t4, t5, t6, t7⟩ := S
  exact StaticIs.there (s := { Z with heap := U.heap }) ⟨cfS, iS, kS, fS, st, cS, t1, t2, t3, t4, t5, (fun q => by rw [q] at t6; cases t6), t7⟩ al rfl
/-- **length() OF SUCH A STRING** -/
theorem lenW {p : Program} {l : Launch} {e : Env} {R : Room} {s : State} {args : Array Value} {below : List Frame} {len W : Nat} {Z : State} {a0 : Array Value} {h : Heap} (hZ : Z.Warmed39 s.vm) (hw : ∀ d ∈ wordsLen, d.before a0 Z = true) {kI : Nat} (wi : (Jvm.Cond.instantiable ST kI).before a0 Z = true)
    {x t : Addr} {kb : ClassId} {cs : List Int32} {cd N2 z : Int32} {vs : List Value} (E : RoadKit.Exa Z h x ST) (V : RoadKit.Fld Z h x ST "value" "[B" (.ref t)) (C : RoadKit.Fld Z h x ST "coder" "B" (.int cd)) (K : RoadKit.Arv Z h t kb .byte N2 vs (.int 0)) (hc : CodA cs cd N2 vs) (hb : ∀ c ∈ cs, ¬ c < 0 ∧ ¬ (65535 : Int32) < c)
    (S : RoadKit.Sta Z h ST "COMPACT_STRINGS" "Z" (.int z)) (hz : ¬ z = 0) (l2 : cs.length ≤ 4000) (hfr : 2 ≤ R.frames) (hlo : W + 25 ≤ R.locals) :
    Back l R p e below s args (⟨"java/lang/String", "length", "()I"⟩ : MethodName) len W (fun P a => a = #[.ref x] ∧ P.U.heap = h ∧ P.cells + 0 ≤ R.cells ∧ P.slots + 0 ≤ R.slots)
      (fun P _ v B => ∃ L, (v = some (.int (Int32.ofNat cs.length)) ∧ L = [] ∧ B.U.heap = h) ∧ B.locs = P.locs ++ L ∧ B.cells = P.cells + 0 ∧ B.slots = P.slots + 0) := by
  obtain ⟨A, K1, K2, K3, K4, K5, K6⟩ := K
  have hcod := hc.cod (by omega) K3 K5
  intro m meth c P g ig mk a X hg hsize hdg hW hn hp'
  obtain ⟨rfl, rfl, r1, r2⟩ := hp'
  have al : Z.vm.Alike P.U.vm := hZ.alike.trans X.warmed.alike
  obtain ⟨D, fV, fC, hB, F1, F2, g1, g2, -, -⟩ := strObj wi al E V C
  have hx : Txt x t A cd cs.length (fun j => cs.getD j 0) P.U := ⟨⟨_, hB.2.2.1, D, hB.1, rfl, by cases q : D.vm <;> first | rfl | exact absurd q (hB.2.1.2 _)⟩, Has.of hB F1 g1, Has.of hB F2 g2, ⟨K1.1, State.isArrayOf_alike al K1.2.1, K1.2.2, by rcases hcod with ⟨-, q, -⟩ | ⟨-, q, -⟩ <;> omega⟩, hcod, fun j hj => by
    have e : cs.getD j 0 = cs[j] := by simp [List.getD_eq_getElem?_getD, hj]
    show ¬ cs.getD j 0 < 0 ∧ ¬ 65535 < cs.getD j 0
    rw [e]; exact hb _ (List.getElem_mem _)⟩
  obtain ⟨v, B, X', ⟨⟨hv, hh⟩, hl, hk, hs⟩, st⟩ := Len.pays x t A cd cs.length (fun j => cs.getD j 0) z (tabLen_of (movedLen hZ hw)) hfr hlo m meth c P g ig mk _ X hg hsize hdg hW hn ⟨r1, r2, rfl, hx, sta_is al S, hz⟩
  exact ⟨v, B, X', ⟨[], ⟨hv, rfl, hh⟩, hl, hk, hs⟩, st⟩
end StrChars.Road
namespace StrChars.Road
open Jvm Sem ClassFile Op Lib Jvm.Stand Jvm.Free Jvm.Free.XT
open Jvm.Lib.Cold (StaticIs)
/-- the road's facts of a String, as the laws ask it -/
theorem txt_of {Z U : State} {a0 : Array Value} {kI : Nat} (wi : (Jvm.Cond.instantiable ST kI).before a0 Z = true) (al : Z.vm.Alike U.vm) {x t : Addr} {kb : ClassId} {cs : List Int32} {cd N2 : Int32} {vs : List Value} (E : RoadKit.Exa Z U.heap x ST) (V : RoadKit.Fld Z U.heap x ST "value" "[B" (.ref t)) (C : RoadKit.Fld Z U.heap x ST "coder" "B" (.int cd)) (K : RoadKit.Arv Z U.heap t kb .byte N2 vs (.int 0)) (hc : CodA cs cd N2 vs) (hb : ∀ c ∈ cs, ¬ c < 0 ∧ ¬ (65535 : Int32) < c) (l2 : cs.length ≤ 4000) :
    ∃ A, Txt x t A cd cs.length (fun j => cs.getD j 0) U := by
  obtain ⟨A, K1, K2, K3, K4, K5, K6⟩ := K
  have hcod := hc.cod (by omega) K3 K5
  obtain ⟨D, fV, fC, hB, F1, F2, g1, g2, -, -⟩ := strObj wi al E V C
  exact ⟨A, ⟨_, hB.2.2.1, D, hB.1, rfl, by cases q : D.vm <;> first | rfl | exact absurd q (hB.2.1.2 _)⟩, Has.of hB F1 g1, Has.of hB F2 g2, ⟨K1.1, State.isArrayOf_alike al K1.2.1, K1.2.2, by rcases hcod with ⟨-, q, -⟩ | ⟨-, q, -⟩ <;> omega⟩, hcod, fun j hj => by
    have e : cs.getD j 0 = cs[j] := by simp [List.getD_eq_getElem?_getD, hj]
    show ¬ cs.getD j 0 < 0 ∧ ¬ 65535 < cs.getD j 0
    rw [e]; exact hb _ (List.getElem_mem _)⟩
end StrChars.Road
namespace StrChars
open Jvm Sem ClassFile Op Lib Jvm.Stand Jvm.Free.XT Jvm.Free.ALB Jvm.Free.JM Jvm.Free
open Jvm.Lib.Cold (StaticIs)
namespace ChN
def yN : MethodName := ⟨"java/lang/String", "charAt", "(I)C"⟩
abbrev yB : ByteArray := jdk_42_method_56_code
theorem d0 : decode yB 0 = .ok (.aload_n 0, 1) := by decide +kernel
theorem d1 : decode yB 1 = .ok (.invokevirtual 492, 3) := by decide +kernel
theorem d4 : decode yB 4 = .ok (.ifCond (.eq) 12, 3) := by decide +kernel
theorem d7 : decode yB 7 = .ok (.aload_n 0, 1) := by decide +kernel
theorem d8 : decode yB 8 = .ok (.getfield 9, 3) := by decide +kernel
theorem d11 : decode yB 11 = .ok (.iload_n 1, 1) := by decide +kernel
theorem d12 : decode yB 12 = .ok (.invokestatic 495, 3) := by decide +kernel
theorem d15 : decode yB 15 = .ok (.ireturn, 1) := by decide +kernel
def site : List Cond := [.fieldLink "java/lang/String" 9 "java/lang/String" "value" "[B", IsL.tab, LChA.tab] ++ virtW "java/lang/String" 492 "java/lang/String" IsL.yN IsL.yN ++ staticW "java/lang/String" 495 LChA.yN
def tab : Cond := tabOf yN yB 2 (some .char) site
def P (x t : Addr) (V : Cell) (n : Nat) (f : Nat → Int32) (z : Int32) (fm : Value) (i : Nat) (args : Array Value) (s : State) : Prop := args = #[.ref x, .int (Int32.ofNat i)] ∧ Txt x t V 0 n f s ∧ i < n ∧ StaticIs s "java/lang/String" "COMPACT_STRINGS" "Z" (.int z) ∧ ¬ z = 0 ∧ StaticIs s "jdk/internal/util/Preconditions" "SIOOBE_FORMATTER" "Ljava/util/function/BiFunction;" fm ∧ fm.isRef = true
def E (f : Nat → Int32) (i : Nat) (r : Option Value) (s u : State) : Prop := XT.PureE (some (.int (f i))) r s u
/-- charAt(i) of a Latin-1 String of n chars, i < n: f i -/
theorem law (l : Launch) (x t : Addr) (V : Cell) (n : Nat) (f : Nat → Int32) (z : Int32) (fm : Value) (i : Nat) : Law l yN 2 1 3 40 yB 2 (some .char) site (P x t V n f z fm i) (E f i) [] 0 0 := by
  refine Law.of_walk (plainFor_of_name (by decide +kernel)) (by decide +kernel) (by decide +kernel) (by decide) (fun _ _ h => by rw [h.1]; rfl) (fun _ U U' hal hh h => ⟨h.1, h.2.1.mv hal hh, h.2.2.1, h.2.2.2.1.there hal hh, h.2.2.2.2.1, h.2.2.2.2.2.1.there hal hh, h.2.2.2.2.2.2⟩) (fun r U U' V V' h1 hal h2 h => XT.PureE.mv r U U' V V' h1 hal h2 h) ?_
  intro p e s m args below meth c s₁ X0 hexec hbytes hml hret hlk hnm hown hh0 W hP
  obtain ⟨rfl, hx, hi, s1, hz, s3, rf⟩ := hP
  have v31 := hx.2.2.2.1.2.2.2
  have hr := hx.2.2.2.2.2 i hi
  have hx0 := hx.mv X0.warmed.alike hh0
  have c1 : Steps p.tables e below (s₁.setTop (entryFrame m #[.ref x, .int (Int32.ofNat i)] 2)) (s₁.setTop (mkF m 1 #[.val (.ref x), .val (.int (Int32.ofNat i))] [.ref x])) := Steps.trans (entry rfl) (by
    show Steps p.tables e below (s₁.setTop (mkF m 0 #[.val (.ref x), .val (.int (Int32.ofNat i))] [])) _
    refine XS.aloadN X0.here hexec rfl (hb hbytes d0) rfl rfl ?_
    exact Steps.refl _)
  obtain ⟨v2, T2, X2, E2, g2⟩ := X0.callV hexec (IsL.law l x 0 z) hown (wks W (virtW "java/lang/String" 492 "java/lang/String" IsL.yN IsL.yN)) rfl (by decide) (wk W IsL.tab) (W := 0) (Nat.le_of_ble_eq_true rfl) (Nat.le_of_ble_eq_true rfl) (Nat.le_refl _) (Nat.le_refl _) (hx0.1.fc X0.warmed.alike) hx0.1.is (g := (mkF m 1 #[.val (.ref x), .val (.int (Int32.ofNat i))] [.ref x])) rfl (by rw [hml]; rfl) c1 (argsL := []) (rest := []) rfl rfl (by show 2 * 0 + 0 ≤ _; decide) (hb hbytes d1) (⟨rfl, hx0.2.2.1, hx.2.2.2.2.1.cd, s1.there X0.warmed.alike hh0, hz⟩)
  obtain ⟨rfl, q2⟩ := E2
  have hh2 := q2.trans hh0
  have hx2 := hx.mv X2.warmed.alike hh2
  obtain ⟨-, k1, k2⟩ | ⟨k0, -⟩ := hx.2.2.2.2.1
  · have c3 : Steps p.tables e below (s₁.setTop (entryFrame m #[.ref x, .int (Int32.ofNat i)] 2)) (T2.setTop (mkF m 8 #[.val (.ref x), .val (.int (Int32.ofNat i))] [.ref x])) := Steps.trans g2 (by
      refine XS.ifNo X2.here hexec rfl (hb hbytes d4) rfl (i0_eq_f (by decide)) ?_
      refine XS.aloadN X2.here hexec rfl (hb hbytes d7) rfl rfl ?_
      exact Steps.refl _)
    obtain ⟨T4, X4, q4, st4⟩ := X2.hget hexec hown (wk W (.fieldLink "java/lang/String" 9 "java/lang/String" "value" "[B")) hx2.2.1 (g := (mkF m 8 #[.val (.ref x), .val (.int (Int32.ofNat i))] [.ref x])) rfl (rest := []) rfl (hb hbytes d8)
    have hh4 := q4.trans hh2
    have c5 : Steps p.tables e below (s₁.setTop (entryFrame m #[.ref x, .int (Int32.ofNat i)] 2)) (T4.setTop (mkF m 12 #[.val (.ref x), .val (.int (Int32.ofNat i))] [.int (Int32.ofNat i), .ref t])) := (c3.trans (st4 _ (Steps.refl _))).trans (by
      refine XS.iloadN X4.here hexec rfl (hb hbytes d11) rfl ?_
      exact Steps.refl _)
    obtain ⟨v6, T6, X6, E6, g6⟩ := X4.callS hexec (LChA.law l t V i (lo8 (f i)) fm) hown (wks W (staticW "java/lang/String" 495 LChA.yN)) (wk W LChA.tab) (W := 0) (Nat.le_of_ble_eq_true rfl) (Nat.le_of_ble_eq_true rfl) (Nat.le_refl _) (Nat.le_refl _) (g := (mkF m 12 #[.val (.ref x), .val (.int (Int32.ofNat i))] [.int (Int32.ofNat i), .ref t])) rfl (by rw [hml]; rfl) c5 (argsL := [.ref t, .int (Int32.ofNat i)]) (rest := []) rfl rfl (by show 2 * 0 + 0 ≤ _; decide) (hb hbytes d12) (⟨rfl, hx.2.2.2.1.mv X4.warmed.alike hh4, (k2 i hi).1, s3.there X4.warmed.alike hh4, rf⟩)
    obtain ⟨rfl, q6⟩ := E6
    rw [chr8_lo8 hr.1 (k2 i hi).2] at g6
    exact ⟨T6, some (.int (f i)), _, _, _, X6, rfl, rfl, rfl, (fun h => by cases h), ⟨rfl, q6.trans hh4⟩, fun fs hl => Steps.trans g6 (X6.ireturnOut hexec hret (narrow_ch hr.1 hr.2) (Or.inr (Or.inr (Or.inr (Or.inl rfl)))) (hb hbytes d15) hl)⟩
  · exact absurd k0 (by decide)
theorem pays {l : Launch} {R : Room} {p : Program} {e : Env} {below : List Frame} {s : State} {sargs : Array Value} {len W : Nat} (x t : Addr) (V : Cell) (n : Nat) (f : Nat → Int32) (z : Int32) (fm : Value) (i : Nat) (htab : tab.before sargs s = true) (hfr : 4 ≤ R.frames) (hlo : W + 53 ≤ R.locals) :
    Back l R p e below s sargs yN len W (fun A₁ a₁ => A₁.cells + 0 ≤ R.cells ∧ A₁.slots + 0 ≤ R.slots ∧ P x t V n f z fm i a₁ A₁.U) (fun A₁ _ v₁ B₁ => E f i v₁ A₁.U B₁.U ∧ B₁.locs = A₁.locs ++ [] ∧ B₁.cells = A₁.cells + 0 ∧ B₁.slots = A₁.slots + 0) :=
  (law l x t V n f z fm i).pays htab hfr (by omega)
end ChN
end StrChars
namespace StrChars.Road
open Jvm Sem ClassFile Op Lib Jvm.Stand Jvm.Free Jvm.Free.XT
open Jvm.Lib.Cold (StaticIs)
/-- the words of String.charAt(int), the Latin-1 road alone -/
abbrev wordsChN : List Jvm.Cond := [.code ChN.yN ChN.yB 2 (some .char), .initialized ST, .fieldLink ST 9 ST "value" "[B", .fieldLink ST 38 ST "COMPACT_STRINGS" "Z", .fieldLink ST 15 ST "coder" "B", .code IsL.yN IsL.yB 1 (some .boolean), .methodLink ST 492 IsL.yN, .declares IsL.yN, .selects ST IsL.yN IsL.yN, .instanceMethod IsL.yN,
  .methodLink ST 495 LChA.yN, .static LChA.yN, .code LChA.yN LChA.yB 2 (some .char), .initialized "java/lang/StringLatin1", .methodLink "java/lang/StringLatin1" 9 JO.Str_checkIndex.yN, .static JO.Str_checkIndex.yN, .code JO.Str_checkIndex.yN JO.Str_checkIndex.yB 2 none,
  .fieldLink ST 1053 "jdk/internal/util/Preconditions" "SIOOBE_FORMATTER" "Ljava/util/function/BiFunction;", .methodLink ST 1059 JC.PreCheck.yN, .static JC.PreCheck.yN, .code JC.PreCheck.yN JC.PreCheck.yB 3 (some .int), .initialized "jdk/internal/util/Preconditions"]
theorem tabChN_of {a : Array Value} {s : State} (h : ∀ w ∈ wordsChN, w.before a s = true) : ChN.tab.before a s = true := by
  have hp : JC.PreCheck.tab.before a s = true := unparts (wk h (.code JC.PreCheck.yN JC.PreCheck.yB 3 (some .int))) (wks h (.initialized JC.PreCheck.yN.cls :: JC.PreCheck.site))
  have qk := consq hp h
  have hk : JO.Str_checkIndex.tab.before a s = true := unparts (wk qk (.code JO.Str_checkIndex.yN JO.Str_checkIndex.yB 2 none)) (wks qk (.initialized JO.Str_checkIndex.yN.cls :: JO.Str_checkIndex.site))
  have ql := consq hk h
  have hl : LChA.tab.before a s = true := unparts (wk ql (.code LChA.yN LChA.yB 2 (some .char))) (wks ql (.initialized LChA.yN.cls :: LChA.site))
  have hi : IsL.tab.before a s = true := unparts (wk h (.code IsL.yN IsL.yB 1 (some .boolean))) (wks h (.initialized IsL.yN.cls :: IsL.site))
  have q := consq hi (consq hl h)
  exact unparts (wk q (.code ChN.yN ChN.yB 2 (some .char))) (wks q (.initialized ChN.yN.cls :: ChN.site))
theorem movedChN {Z s : State} {a0 args : Array Value} (hZ : Z.Warmed39 s.vm) (hw : ∀ d ∈ wordsChN, d.before a0 Z = true) : ∀ d ∈ wordsChN, d.before args s = true := fun d hd => by
  have t : ∀ d ∈ wordsChN, (d.onTables && d.keepsFace) = true := by decide +kernel
  exact RoadKit.mv hZ (hw d hd) (t d hd)
/-- **charAt(i) OF A LATIN-1 STRING**, i < n: the char -/
theorem chN {p : Program} {l : Launch} {e : Env} {R : Room} {s : State} {args : Array Value} {below : List Frame} {len W : Nat} {Z : State} {a0 : Array Value} {h : Heap} (hZ : Z.Warmed39 s.vm) (hw : ∀ d ∈ wordsChN, d.before a0 Z = true) {kI : Nat} (wi : (Jvm.Cond.instantiable ST kI).before a0 Z = true)
    {x t : Addr} {kb : ClassId} {cs : List Int32} {N2 z : Int32} {vs : List Value} {fm : Value} {i : Nat} {j : Int32} (E : RoadKit.Exa Z h x ST) (V : RoadKit.Fld Z h x ST "value" "[B" (.ref t)) (C : RoadKit.Fld Z h x ST "coder" "B" (.int 0)) (K : RoadKit.Arv Z h t kb .byte N2 vs (.int 0)) (hc : CodA cs 0 N2 vs) (hb : ∀ c ∈ cs, ¬ c < 0 ∧ ¬ (65535 : Int32) < c)
    (S : RoadKit.Sta Z h ST "COMPACT_STRINGS" "Z" (.int z)) (hz : ¬ z = 0) (F : RoadKit.Sta Z h "jdk/internal/util/Preconditions" "SIOOBE_FORMATTER" "Ljava/util/function/BiFunction;" fm) (rf : fm.isRef = true) (l2 : cs.length ≤ 4000) (hi : i < cs.length) (hj : j = Int32.ofNat i) (hfr : 4 ≤ R.frames) (hlo : W + 53 ≤ R.locals) :
    Back l R p e below s args (⟨"java/lang/String", "charAt", "(I)C"⟩ : MethodName) len W (fun P a => a = #[.ref x, .int j] ∧ P.U.heap = h ∧ P.cells + 0 ≤ R.cells ∧ P.slots + 0 ≤ R.slots)
      (fun P _ v B => ∃ L, (v = some (.int (cs.getD i 0)) ∧ L = [] ∧ B.U.heap = h) ∧ B.locs = P.locs ++ L ∧ B.cells = P.cells + 0 ∧ B.slots = P.slots + 0) := by
  subst hj
  intro m meth c P g ig mk a X hg hsize hdg hW hn hp'
  obtain ⟨rfl, rfl, r1, r2⟩ := hp'
  have al : Z.vm.Alike P.U.vm := hZ.alike.trans X.warmed.alike
  obtain ⟨A, hx⟩ := txt_of wi al E V C K hc hb l2
  obtain ⟨v, B, X', ⟨⟨hv, hh⟩, hl, hk, hs⟩, st⟩ := ChN.pays x t A cs.length (fun j => cs.getD j 0) z fm i (tabChN_of (movedChN hZ hw)) hfr hlo m meth c P g ig mk _ X hg hsize hdg hW hn ⟨r1, r2, rfl, hx, hi, sta_is al S, hz, sta_is al F, rf⟩
  exact ⟨v, B, X', ⟨[], ⟨hv, rfl, hh⟩, hl, hk, hs⟩, st⟩
/-- what backV says of its String, as the contracts of this text ask it: cs's low bytes, coder 0 -/
theorem codOf {cs : List Int32} {n : Nat} (hn : cs.length = n) (hb : ∀ c ∈ cs, ¬ 255 < c) : CodA cs 0 (Int32.ofNat n) ((cs.map lo8).map Value.int) := Or.inl ⟨rfl, by rw [hn], by simp [List.map_map, Function.comp_def], hb⟩
end StrChars.Road
end Jvm.Pilot.@@N@@
namespace Jvm.Pilot.@@N@@
open Jvm Jvm.ClassFile Sem Op Lib Jvm.Free Jvm.Stand Jvm.LawKit Jvm.RoadKit Bundle Jvm.Pilot.@@N@@.Jvm.D
section Kit
variable {p : Program} {l : Launch} {e : Env} {R : Room} {s : State} {m : MethodId} {args : Array Value} {below : List Frame} {meth : Method} {c : Code} {Z : State} {a0 : Array Value} {EL : List (String × Nat)} {own : String} {sf : List Addr} {T : State} {h h' h0 : Heap} {k n k' n' rc rs pc : Nat} {Ls : Array Slot} {stk rest : List Value} {Q : Option Value → Heap → Prop}
/-- where a walk stands: the library's Stand over the start with the tables at hand, and what rides along -/
def Wk (p : Program) (l : Launch) (e : Env) (R : Room) (s : State) (m : MethodId) (args : Array Value) (below : List Frame) (meth : Method) (c : Code) (Z : State) (a0 : Array Value) (EL : List (String × Nat)) (own : String) (sf : List Addr) (T : State) (h : Heap) (k n : Nat) : Prop :=
  p.tables.exec = Jvm.exec ∧ meth.locks = false ∧ EW Z a0 EL ∧ Ext Z.heap s.heap ∧ ∃ (vm0 : Vm) (k0 : Nat) (L : List Loc), Stand p l e R (s.setVm vm0) m args below meth c T L k n ∧ T.heap = h ∧ s.Since vm0 k0 ∧ k0 ≤ h.size ∧ Z.Warmed39 vm0 ∧ vm0.findClass own = some m.cls ∧ CHr Z EL s.vm s.heap vm0 h ∧ (∀ x ∈ sf, x < h.size ∧ Safe Z EL vm0 h x) ∧ Fr Z.heap.size L
/-- from the state st the invocation ends, with Q of its value and heap -/
def Go (p : Program) (e : Env) (below : List Frame) (s : State) (Z : State) (EL : List (String × Nat)) (rc rs : Nat) (Q : Option Value → Heap → Prop) (st : State) : Prop :=
  ∃ t o, Steps p.tables e below st t ∧ t.status = .running ∧ Ended t below o ∧ ∃ v L, o = .returned v ∧ (Q v t.heap ∧ Fr Z.heap.size L) ∧ CHr Z EL s.vm s.heap t.vm t.heap ∧ ReturnedEndW s o t L rc rs
/-- a method's contract: at these arguments and this heap it ends, with Q of its value and heap -/
def Con (l : Launch) (Z : State) (EL : List (String × Nat)) (sf : List Addr) (y : MethodName) (bytes : ByteArray) (maxL : Nat) (ret : Option FieldType) (ws : List Cond) (rm : Room) (as' : Array Value) (h : Heap) (Q : Option Value → Heap → Prop) : Prop :=
  MetFree l y (head1 (Cond.code y bytes maxL ret :: ws) rm) (fun a U => a = as' ∧ Z.Warmed39 U.vm ∧ U.heap = h ∧ CHv Z EL U.vm h ∧ ∀ x ∈ sf, Safe Z EL U.vm h x) (fun _ _ _ _ _ => True) (fun _ U o U' => ∃ v L, o = .returned v ∧ (Q v U'.heap ∧ Fr Z.heap.size L) ∧ CHr Z EL U.vm U.heap U'.vm U'.heap ∧ ReturnedEndW U o U' L rm.cells rm.slots)
theorem Go.by {st st' : State} (q : ∀ t, Steps p.tables e below st' t → Steps p.tables e below st t) (f : Go p e below s Z EL rc rs Q st') : Go p e below s Z EL rc rs Q st := by
  obtain ⟨t, o, h1, r⟩ := f; exact ⟨t, o, q t h1, r⟩
theorem Go.of {st st' : State} (q : Steps p.tables e below st st') (f : Go p e below s Z EL rc rs Q st') : Go p e below s Z EL rc rs Q st := f.by fun t r => q.trans r
theorem Wk.hx (W : Wk p l e R s m args below meth c Z a0 EL own sf T h k n) : p.tables.exec = Jvm.exec := W.1
theorem Wk.here (W : Wk p l e R s m args below meth c Z a0 EL own sf T h k n) : At T m c below := by obtain ⟨-, -, -, -, vm0, k0, L, X, -⟩ := W; exact X.here
theorem Wk.old (W : Wk p l e R s m args below meth c Z a0 EL own sf T h k n) : Ext Z.heap h := by
  obtain ⟨-, -, -, hE, vm0, k0, L, X, rfl, -, -, -, -, -, -, N⟩ := W
  refine ⟨Nat.le_trans hE.1 X.same.2.1, fun b cl hb => ?_⟩
  obtain ⟨c', h1, h2, -, h4⟩ := X.same.2.2.2.2.2 b cl (hE.2 b cl hb)
  have hlt := (Array.getElem?_eq_some_iff.mp hb).1
  have hsl : c'.slots = cl.slots := Array.ext_getElem? fun i => h4 i fun hm => absurd (N _ hm) (Nat.not_le.mpr hlt)
  have hcc : c' = cl := by rw [h2, hsl]
  rw [← hcc]; exact h1
theorem Wk.mono (W : Wk p l e R s m args below meth c Z a0 EL own sf T h k n) (hk : k ≤ k') (hn : n ≤ n') : Wk p l e R s m args below meth c Z a0 EL own sf T h k' n' := by
  obtain ⟨w1, w2, w3, w4, vm0, k0, L, X, r⟩ := W; exact ⟨w1, w2, w3, w4, vm0, k0, L, X.mono hk hn, r⟩
theorem Wk.less {sf' : List Addr} (W : Wk p l e R s m args below meth c Z a0 EL own sf T h k n) (q : ∀ x ∈ sf', x ∈ sf) : Wk p l e R s m args below meth c Z a0 EL own sf' T h k n := by
  obtain ⟨w1, w2, w3, w4, vm0, k0, L, X, r1, r2, r3, r4, r5, r6, r7, r8⟩ := W; exact ⟨w1, w2, w3, w4, vm0, k0, L, X, r1, r2, r3, r4, r5, r6, fun x hx => r7 x (q x hx), r8⟩
/-- what is safe by its class -/
theorem Wk.safeE {C : String} {x : Addr} (W : Wk p l e R s m args below meth c Z a0 EL own sf T h k n) (E : Exa Z h x C) (h1 : C ≠ "java/lang/String") (h2 : C ≠ "[B") : Wk p l e R s m args below meth c Z a0 EL own (x :: sf) T h k n := by
  obtain ⟨w1, w2, w3, w4, vm0, k0, L, X, r1, r2, r3, r4, r5, r6, r7, r8⟩ := W
  exact ⟨w1, w2, w3, w4, vm0, k0, L, X, r1, r2, r3, r4, r5, r6, fun y hy => by
    rcases List.mem_cons.mp hy with rfl | hy
    · exact ⟨E.lt, Safe.exa r4.alike E h1 h2⟩
    · exact r7 y hy, r8⟩
/-- a contract by its body's walk -/
theorem Con.mk {y : MethodName} {bytes : ByteArray} {maxL : Nat} {ret : Option FieldType} {ws : List Cond} {rm : Room} {as' : Array Value} (hp : plainFor y = true) (hEL : EW Z a0 EL) (hE : Ext Z.heap h) (hsf : ∀ x ∈ sf, x < h.size)
    (body : ∀ (p : Program) (e : Env) (s : State) (m : MethodId) (below : List Frame) (meth : Method) (c : Code) (T : State), c.code = bytes → c.maxLocals = maxL → meth.sig.returnType = ret → meth.name = y.name → Wk p l e rm s m as' below meth c Z a0 EL y.cls sf T h 0 0 → Go p e below s Z EL rm.cells rm.slots Q (T.setTop (entryFrame m as' maxL))) :
    Con l Z EL sf y bytes maxL ret ws rm as' h Q := by
  refine MetFree.of_bodySF hp hisR ?_
  intro p e s m args below meth c s₁ Bd hml0 hP hK
  obtain ⟨rfl, hZ, hh, hC, hS⟩ := hP
  have X0 : Stand p l e rm s m args below meth c s₁ [] 0 0 := Stand.of_body Bd
  have e0 : s₁.heap = h := by rw [← hh, Bd.state]; rfl
  subst hh
  obtain ⟨t, o, h1, h2, h3, h4⟩ := body p e s m below meth c s₁ Bd.bytes hml0 Bd.returns (name_of_methodNamed Bd.named Bd.method).1
    ⟨Bd.exec, Bd.notSynchronized, hEL, hE, s.vm, 0, [], X0, e0, (State.WarmedH.refl s).since 0, Nat.zero_le _, hZ, findClass_of_methodNamed Bd.named, CHr.refl hC, fun x hx => ⟨hsf x hx, hS x hx⟩, Fr.nil _⟩
  exact ⟨t, o, h1, h2, h3, h4⟩
/-! returns -/
theorem Wk.ret {st : State} {v : Option Value} (W : Wk p l e R s m args below meth c Z a0 EL own sf T h k n) (hk : k ≤ rc) (hn : n ≤ rs) (hv : meth.sig.returnType = none → v = none) (q : Q v h)
    (go : ∀ {L : List Loc} {vm0 : Vm}, Stand p l e R (s.setVm vm0) m args below meth c T L k n → ∀ fs : List Frame, (∀ (f : JFrame) (acts : List Action), f.method = m → f.locked = none → f.entered = [] → (doReturn e (T.setTop f) acts v).1 = T.setFrames fs) → Steps p.tables e below st (T.setFrames fs)) : Go p e below s Z EL rc rs Q st := by
  obtain ⟨w1, w2, w3, w4, vm0, k0, L, X, rfl, r2, r3, r4, r5, r6, r7, r8⟩ := W
  obtain ⟨fs, hr, hrun, hended, hW⟩ := (X.mono hk hn).leaveW r2 r3 hv w2
  have hc : CHr Z EL s.vm s.heap T.vm T.heap := r6.trans (CHv.at X r4 w3 r6.1)
  exact ⟨_, _, go X fs hr, hrun, hended, v, L, rfl, ⟨q, r8⟩, hc, hW⟩
theorem Wk.retV (W : Wk p l e R s m args below meth c Z a0 EL own sf T h k n) (hk : k ≤ rc) (hn : n ≤ rs) (hret : meth.sig.returnType = none) (hd : decode c.code pc = .ok (.return_, 1)) (q : Q none h) : Go p e below s Z EL rc rs Q (T.setTop (mkF m pc Ls [])) :=
  W.ret hk hn (fun _ => rfl) q fun X fs hr => X.returnOut W.hx hret hd hr
theorem Wk.retN {t : FieldType} {z z' : Int32} (W : Wk p l e R s m args below meth c Z a0 EL own sf T h k n) (hk : k ≤ rc) (hn : n ≤ rs) (hret : meth.sig.returnType = some t) (ht : t = .boolean ∨ t = .byte ∨ t = .char ∨ t = .short) (hd : decode c.code pc = .ok (.ireturn, 1)) (hz : nar t z = z') (q : Q (some (.int z')) h) : Go p e below s Z EL rc rs Q (T.setTop (mkF m pc Ls (.int z :: rest))) := by
  subst hz
  exact W.ret hk hn (fun h => by rw [hret] at h; cases h) q fun X fs hr => Jvm.RoadKit.retN X W.hx hret ht hd hr
theorem Wk.retI {z : Int32} (W : Wk p l e R s m args below meth c Z a0 EL own sf T h k n) (hk : k ≤ rc) (hn : n ≤ rs) (hret : meth.sig.returnType = some .int) (hd : decode c.code pc = .ok (.ireturn, 1)) (q : Q (some (.int z)) h) : Go p e below s Z EL rc rs Q (T.setTop (mkF m pc Ls (.int z :: rest))) :=
  W.ret hk hn (fun h => by rw [hret] at h; cases h) q fun X fs hr => retOut X W.hx hret rfl (Or.inl ⟨rfl, by simp, z, rfl⟩) hd hr
theorem Wk.retA {t : FieldType} {w : Value} (W : Wk p l e R s m args below meth c Z a0 EL own sf T h k n) (hk : k ≤ rc) (hn : n ≤ rs) (hret : meth.sig.returnType = some t) (ht : t.isReference = true) (hw : w.isRef = true) (hd : decode c.code pc = .ok (.areturn, 1)) (q : Q (some w) h) : Go p e below s Z EL rc rs Q (T.setTop (mkF m pc Ls (w :: rest))) :=
  W.ret hk hn (fun h => by rw [hret] at h; cases h) q fun X fs hr => retOut X W.hx hret (by rcases ref_cases hw with rfl | ⟨z, rfl⟩ <;> cases t <;> first | rfl | cases ht) (Or.inr (Or.inr (Or.inr (Or.inr ⟨rfl, ht, hw⟩)))) hd hr
/-! fields -/
theorem Wk.getf {R0 O nm d host : String} {index : Nat} {a : Addr} {v : Value} (W : Wk p l e R s m args below meth c Z a0 EL own sf T h k n) (w : (Cond.fieldLink own index R0 nm d).before a0 Z = true ∨ (Cond.fieldLinkNest own index R0 nm d host).before a0 Z = true) (via : Via Z R0 O nm d) (F : Fld Z h a O nm d v) (hd : decode c.code pc = .ok (.getfield index, 3))
    (go : ∀ T', Wk p l e R s m args below meth c Z a0 EL own sf T' h k n → Go p e below s Z EL rc rs Q (T'.setTop (mkF m (pc + 3) Ls (v :: rest)))) : Go p e below s Z EL rc rs Q (T.setTop (mkF m pc Ls (.ref a :: rest))) := by
  obtain ⟨w1, w2, w3, w4, vm0, k0, L, X, r1, r2, r3, r4, r5, r⟩ := W
  obtain ⟨T', X', e', st⟩ := getF X w1 r4 r5 w via r1 F (g := mkF m pc Ls (.ref a :: rest)) rfl rfl hd
  exact Go.by st (go T' ⟨w1, w2, w3, w4, vm0, k0, L, X', e', r2, r3, r4, r5, r⟩)
theorem Wk.gets {R0 O nm d host : String} {index : Nat} {v : Value} (W : Wk p l e R s m args below meth c Z a0 EL own sf T h k n) (w : (Cond.fieldLink own index R0 nm d).before a0 Z = true ∨ (Cond.fieldLinkNest own index R0 nm d host).before a0 Z = true) (via : Via Z R0 O nm d) (F : Sta Z h O nm d v) (hd : decode c.code pc = .ok (.getstatic index, 3))
    (go : ∀ T', Wk p l e R s m args below meth c Z a0 EL own sf T' h k n → Go p e below s Z EL rc rs Q (T'.setTop (mkF m (pc + 3) Ls (v :: stk)))) : Go p e below s Z EL rc rs Q (T.setTop (mkF m pc Ls stk)) := by
  obtain ⟨w1, w2, w3, w4, vm0, k0, L, X, r1, r2, r3, r4, r5, r⟩ := W
  obtain ⟨T', X', e', st⟩ := getS2 X w1 r4 r5 w via r1 F (g := mkF m pc Ls stk) rfl hd
  exact Go.by st (go T' ⟨w1, w2, w3, w4, vm0, k0, L, X', e', r2, r3, r4, r5, r⟩)
theorem Wk.wrote {a : Addr} {sl : Nat} {v : Value} {T' : State} {L : List Loc} {vm0 : Vm} (hxm : p.tables.exec = Jvm.exec) (hl : meth.locks = false) (hEW : EW Z a0 EL) (hE : Ext Z.heap s.heap) {k0 : Nat} (X' : Stand p l e R (s.setVm vm0) m args below meth c T' (L ++ [⟨a, sl⟩]) k n) (e' : T'.heap = h') (W' : Wr h h' a sl v) (r2 : s.Since vm0 k0) (r3 : k0 ≤ h.size) (r4 : Z.Warmed39 vm0) (r5 : vm0.findClass own = some m.cls) (r6 : CHr Z EL s.vm s.heap vm0 h) (r7 : ∀ x ∈ sf, x < h.size ∧ Safe Z EL vm0 h x) (r8 : Fr Z.heap.size L) (ha : Z.heap.size ≤ a) (hs : a ∈ sf) :
    Wk p l e R s m args below meth c Z a0 EL own sf T' h' k n := by
  have hsz : h'.size = h.size := W'.size
  exact ⟨hxm, hl, hEW, hE, vm0, k0, _, X', e', r2, by rw [hsz]; exact r3, r4, r5, r6.trans (CHr.wr W' (r7 a hs).2 r6.1), fun x hx => ⟨by rw [hsz]; exact (r7 x hx).1, Safe.wr W' (r7 a hs).2 r6.1 (r7 x hx).2⟩, Fr.snoc X' r8 ha⟩
theorem Wk.putf {R0 O nm d host C : String} {index kk : Nat} {ty : FieldType} {a : Addr} {v old : Value} (W : Wk p l e R s m args below meth c Z a0 EL own sf T h k n) (w : (Cond.fieldLink own index R0 nm d).before a0 Z = true ∨ (Cond.fieldLinkNest own index R0 nm d host).before a0 Z = true) (via : Via Z R0 O nm d) (F : Fld Z h a O nm d old) (E : Exa Z h a C) (Lw : (Cond.lays C O nm d).before a0 Z = true ∨ ((Cond.laysFinal C O nm d).before a0 Z = true ∧ own = O ∧ meth.name = "<init>")) (wi : (Cond.instantiable C kk).before a0 Z = true)
    (hty : parseFieldDescriptor d = some ty) (hn : narrow ty v = v) (hf : fits ty v = true) (ha : Z.heap.size ≤ a) (hs : a ∈ sf) (hd : decode c.code pc = .ok (.putfield index, 3))
    (go : ∀ T' h', Wk p l e R s m args below meth c Z a0 EL own sf T' h' k n → Wr h h' a (RoadKit.slotOf Z O nm d) v → Go p e below s Z EL rc rs Q (T'.setTop (mkF m (pc + 3) Ls rest))) : Go p e below s Z EL rc rs Q (T.setTop (mkF m pc Ls (v :: .ref a :: rest))) := by
  obtain ⟨w1, w2, w3, w4, vm0, k0, L, X, r1, r2, r3, r4, r5, r6, r7, r8⟩ := W
  obtain ⟨T', h', X', e', W', st⟩ := putF X w1 r4 r5 w via r1 F E Lw wi hty hn hf (g := mkF m pc Ls (v :: .ref a :: rest)) rfl rfl hd
  exact Go.by st (go T' h' (Wk.wrote w1 w2 w3 w4 X' e' W' r2 r3 r4 r5 r6 r7 r8 ha hs) W')
theorem Wk.putfn {R0 O nm d C : String} {index kk : Nat} {ty : FieldType} {a : Addr} {v v' old : Value} (W : Wk p l e R s m args below meth c Z a0 EL own sf T h k n) (w : (Cond.fieldLink own index R0 nm d).before a0 Z = true) (via : Via Z R0 O nm d) (F : Fld Z h a O nm d old) (E : Exa Z h a C) (Lw : (Cond.lays C O nm d).before a0 Z = true ∨ ((Cond.laysFinal C O nm d).before a0 Z = true ∧ own = O ∧ meth.name = "<init>")) (wi : (Cond.instantiable C kk).before a0 Z = true)
    (hty : parseFieldDescriptor d = some ty) (hn : narrow ty v = v') (hf : fits ty v' = true) (ha : Z.heap.size ≤ a) (hs : a ∈ sf) (hd : decode c.code pc = .ok (.putfield index, 3))
    (go : ∀ T' h', Wk p l e R s m args below meth c Z a0 EL own sf T' h' k n → Wr h h' a (RoadKit.slotOf Z O nm d) v' → Go p e below s Z EL rc rs Q (T'.setTop (mkF m (pc + 3) Ls rest))) : Go p e below s Z EL rc rs Q (T.setTop (mkF m pc Ls (v :: .ref a :: rest))) := by
  obtain ⟨w1, w2, w3, w4, vm0, k0, L, X, r1, r2, r3, r4, r5, r6, r7, r8⟩ := W
  obtain ⟨T', h', X', e', W', st⟩ := putFN X w1 r4 r5 w via r1 F E Lw wi hty hn hf (g := mkF m pc Ls (v :: .ref a :: rest)) rfl rfl hd
  exact Go.by st (go T' h' (Wk.wrote w1 w2 w3 w4 X' e' W' r2 r3 r4 r5 r6 r7 r8 ha hs) W')
/-! making -/
theorem Wk.grew {x : Addr} {T' : State} {L : List Loc} {vm0 : Vm} {k0 : Nat} (hxm : p.tables.exec = Jvm.exec) (hl : meth.locks = false) (hEW : EW Z a0 EL) (hE : Ext Z.heap s.heap) (X' : Stand p l e R (s.setVm vm0) m args below meth c T' L k' n') (e' : T'.heap = h') (E : Ext h h') (hx : x < h'.size) (hn : h.size ≤ x) (r2 : s.Since vm0 k0) (r3 : k0 ≤ h.size) (r4 : Z.Warmed39 vm0) (r5 : vm0.findClass own = some m.cls) (r6 : CHr Z EL s.vm s.heap vm0 h) (r7 : ∀ x ∈ sf, x < h.size ∧ Safe Z EL vm0 h x) (r8 : Fr Z.heap.size L) :
    Wk p l e R s m args below meth c Z a0 EL own (x :: sf) T' h' k' n' :=
  ⟨hxm, hl, hEW, hE, vm0, k0, L, X', e', r2, Nat.le_trans r3 E.1, r4, r5, r6.trans (CHr.ext E r6.1), fun y hy => by
    rcases List.mem_cons.mp hy with rfl | hy
    · exact ⟨hx, Safe.ext E r6.1 (Safe.new hn)⟩
    · exact ⟨Nat.lt_of_lt_of_le (r7 y hy).1 E.1, Safe.ext E r6.1 (r7 y hy).2⟩, r8⟩
theorem Wk.new {C : String} {index N : Nat} (W : Wk p l e R s m args below meth c Z a0 EL own sf T h k n) (w : (Cond.classLink own index C).before a0 Z = true) (wi : (Cond.instantiable C N).before a0 Z = true) (wz : (Cond.initialized C).before a0 Z = true) (hd : decode c.code pc = .ok (.new index, 3)) (ek : k + 1 = k') (en : n + N = n') (hk : k' ≤ R.cells) (hn : n' ≤ R.slots)
    (go : ∀ T' h' x, Wk p l e R s m args below meth c Z a0 EL own (x :: sf) T' h' k' n' → Ext h h' → h.size = x → Z.heap.size ≤ x → Exa Z h' x C → (∀ {O nm d : String} {ty : FieldType}, Laid Z a0 C O nm d → parseFieldDescriptor d = some ty → Fld Z h' x O nm d (defaultValue ty)) → Go p e below s Z EL rc rs Q (T'.setTop (mkF m (pc + 3) Ls (.ref x :: stk)))) : Go p e below s Z EL rc rs Q (T.setTop (mkF m pc Ls stk)) := by
  have hO := W.old
  obtain ⟨w1, w2, w3, w4, vm0, k0, L, X, r1, r2, r3, r4, r5, r6, r7, r8⟩ := W
  subst ek en
  obtain ⟨T', h', X', e', E, A, D, -, st⟩ := newO X w1 r4 r5 w wi wz r1 (g := mkF m pc Ls stk) rfl hd hk hn
  exact Go.by st (go T' h' _ (Wk.grew w1 w2 w3 w4 X' e' E A.lt (Nat.le_refl _) r2 r3 r4 r5 r6 r7 r8) E rfl hO.1 A D)
theorem Wk.newp {aty : ArrayType} {z : Int32} {cap : Nat} {ad : String} (W : Wk p l e R s m args below meth c Z a0 EL own sf T h k n) (w : (Cond.arrayClass (newarray.typeOf aty)).before a0 Z = true) (hd : decode c.code pc = .ok (.newarray aty, 2)) (hz : ¬ z < 0) (hcap : z.toNatClampNeg ≤ cap) (hb : cap * 8 ≤ 536870912) (ek : k + 1 = k') (en : n + cap = n') (hk : k' ≤ R.cells) (hn : n' ≤ R.slots) (had : "[" ++ (newarray.typeOf aty).toString = ad)
    (go : ∀ T' h' x kA, Wk p l e R s m args below meth c Z a0 EL own (x :: sf) T' h' k' n' → Ext h h' → h.size = x → Z.heap.size ≤ x → Exa Z h' x ad → Arv Z h' x kA (newarray.typeOf aty) z [] (defaultValue (newarray.typeOf aty)) → Go p e below s Z EL rc rs Q (T'.setTop (mkF m (pc + 2) Ls (.ref x :: rest)))) : Go p e below s Z EL rc rs Q (T.setTop (mkF m pc Ls (.int z :: rest))) := by
  have hO := W.old
  obtain ⟨w1, w2, w3, w4, vm0, k0, L, X, r1, r2, r3, r4, r5, r6, r7, r8⟩ := W
  subst ek en
  obtain ⟨T', h', cA, X', e', E, A, D, st⟩ := newPE X w1 r4 w r1 (g := mkF m pc Ls (.int z :: rest)) rfl hd rfl hz hcap hb hk hn had
  exact Go.by st (go T' h' _ cA (Wk.grew w1 w2 w3 w4 X' e' E D.lt (Nat.le_refl _) r2 r3 r4 r5 r6 r7 r8) E rfl hO.1 D (Arv.new A hz))
theorem Wk.newr {C : String} {index : Nat} {z : Int32} {cap : Nat} {ad : String} (W : Wk p l e R s m args below meth c Z a0 EL own sf T h k n) (wl : (Cond.classLink own index C).before a0 Z = true) (w : (Cond.arrayOver (.object C)).before a0 Z = true) (hd : decode c.code pc = .ok (.anewarray index, 3)) (hz : ¬ z < 0) (hcap : z.toNatClampNeg ≤ cap) (hb : cap * 8 ≤ 536870912) (ek : k + 1 = k') (en : n + cap = n') (hk : k' ≤ R.cells) (hn : n' ≤ R.slots) (had : "[" ++ (FieldType.object C).toString = ad)
    (go : ∀ T' h' x kA, Wk p l e R s m args below meth c Z a0 EL own (x :: sf) T' h' k' n' → Ext h h' → h.size = x → Z.heap.size ≤ x → Exa Z h' x ad → Arv Z h' x kA (.object C) z [] .null → Ovr Z kA C → Go p e below s Z EL rc rs Q (T'.setTop (mkF m (pc + 3) Ls (.ref x :: rest)))) : Go p e below s Z EL rc rs Q (T.setTop (mkF m pc Ls (.int z :: rest))) := by
  have hO := W.old
  obtain ⟨w1, w2, w3, w4, vm0, k0, L, X, r1, r2, r3, r4, r5, r6, r7, r8⟩ := W
  subst ek en
  obtain ⟨T', h', cA, X', e', E, A, D, O, st⟩ := newRE X w1 r4 r5 wl w r1 (g := mkF m pc Ls (.int z :: rest)) rfl hd rfl hz hcap hb hk hn had
  exact Go.by st (go T' h' _ cA (Wk.grew w1 w2 w3 w4 X' e' E D.lt (Nat.le_refl _) r2 r3 r4 r5 r6 r7 r8) E rfl hO.1 D (Arv.new A hz) O)
theorem Wk.initO {index Wt : Nat} {a : Addr} (W : Wk p l e R s m args below meth c Z a0 EL own sf T h k n) (w1 : (Cond.methodLink own index Lib.objectInit).before a0 Z = true) (w2 : (Cond.instanceMethod Lib.objectInit).before a0 Z = true) (w3 : (Cond.code Lib.objectInit ⟨#[0xb1]⟩ 1 none).before a0 Z = true) (hsz : Ls.size = c.maxLocals) (hd : decode c.code pc = .ok (.invokespecial index, 3)) (hf : 1 ≤ R.frames) (hW : (rest.map fun v => v.category).sum ≤ Wt) (hl : Wt + 12 ≤ R.locals)
    (go : ∀ T', Wk p l e R s m args below meth c Z a0 EL own sf T' h k n → Go p e below s Z EL rc rs Q (T'.setTop (mkF m (pc + 3) Ls rest))) : Go p e below s Z EL rc rs Q (T.setTop (mkF m pc Ls (.ref a :: rest))) := by
  obtain ⟨u1, u2, u3, u4, vm0, k0, L, X, r1, r2, r3, r4, r5, r⟩ := W
  obtain ⟨T', X', e', st⟩ := Jvm.RoadKit.initO X u1 r4 r5 w1 w2 w3 r1 (g := mkF m pc Ls (.ref a :: rest)) rfl hsz rfl hd hf (W := Wt) (by show 2 * 0 + _ ≤ _; omega) hl
  exact Go.by st (go T' ⟨u1, u2, u3, u4, vm0, k0, L, X', e', r2, r3, r4, r5, r⟩)
/-! calls -/
theorem backK {y : MethodName} {bytes : ByteArray} {maxL : Nat} {ret : Option FieldType} {rm : Room} {len Wt : Nat} {as' : Array Value} {vm0 : Vm} {sf' : List Addr} {Qc : Option Value → Heap → Prop}
    (hM : Con l Z EL sf' y bytes maxL ret [] rm as' h Qc) (hZ : Z.Warmed39 vm0) (wc : (Cond.code y bytes maxL ret).before a0 Z = true) (wz : (Cond.initialized y.cls).before a0 Z = true) (hf : rm.frames + 1 ≤ R.frames) (hl : Wt + (maxL + 11) + rm.locals ≤ R.locals) (hEL : EW Z a0 EL) (H : CHv Z EL vm0 h) (hsf : ∀ x ∈ sf', x < h.size ∧ Safe Z EL vm0 h x) :
    BackS l R p e below (s.setVm vm0) args y len Wt (fun A a => a = as' ∧ A.U.heap = h ∧ A.cells + rm.cells ≤ R.cells ∧ A.slots + rm.slots ≤ R.slots)
      (fun A _ v B => ∃ L, (Qc v B.U.heap ∧ Fr Z.heap.size L) ∧ B.locs = A.locs ++ L ∧ B.cells = A.cells + rm.cells ∧ B.slots = A.slots + rm.slots ∧ CHr Z EL vm0 h B.U.vm B.U.heap) :=
  BackS.of_freeW (bytes := bytes) (maxL := maxL) (ret := ret) (E := fun _ first o t L k n => k = rm.cells ∧ n = rm.slots ∧ (∃ v, o = .returned v ∧ (Qc v t.heap ∧ Fr Z.heap.size L)) ∧ CHr Z EL first.vm first.heap t.vm t.heap) hM hf hl
    (fun m meth c A a Y hp => have hU : Z.Warmed39 A.U.vm := wtrans (s := s.setVm vm0) hZ Y.warmed
      ⟨by show (Cond.and _ .tt).before a A.U = true; rw [Cond.before_and, mv hU wc]; rfl, mv hU wc, mv hU wz, hp.2.2.1, hp.2.2.2⟩)
    (fun m meth c A a g mk Y hp => ⟨hp.1, wtrans (s := s.setVm vm0) hZ Y.warmed, hp.2.1, (CHv.at Y hZ hEL H).1, fun x hx => (CHv.at Y hZ hEL H).safe (hsf x hx).1 (hsf x hx).2⟩) (fun _ _ _ _ _ _ _ _ _ => trivial)
    (fun _ _ _ _ ⟨v, L, h1, h2, h3, h4⟩ => ⟨L, _, _, h4, rfl, rfl, ⟨v, h1, h2⟩, h3⟩)
    (fun m meth c A a g mk v t L k n Y hp _ _ ⟨e1, e2, ⟨v', e3, e4⟩, e5⟩ => by
      cases e3; subst e1 e2
      refine ⟨L, e4, rfl, rfl, rfl, (CHv.at Y hZ hEL H).trans ?_⟩
      rw [← hp.2.1]; exact e5)
theorem Wk.came {B : Pt} {v : Option Value} {rm : Room} {vm0 : Vm} {k0 : Nat} {L Lc : List Loc} {Qc : Option Value → Heap → Prop} (hxm : p.tables.exec = Jvm.exec) (hl : meth.locks = false) (hEW : EW Z a0 EL) (hE : Ext Z.heap s.heap) (X' : Stand p l e R ((s.setVm vm0).setVm B.U.vm) m args below meth c B.U B.locs B.cells B.slots) (hS : (s.setVm vm0).Since B.U.vm B.U.heap.size) (hg : h.size ≤ B.U.heap.size)
    (q : (Qc v B.U.heap ∧ Fr Z.heap.size Lc) ∧ B.locs = L ++ Lc ∧ B.cells = k + rm.cells ∧ B.slots = n + rm.slots ∧ CHr Z EL vm0 h B.U.vm B.U.heap) (r2 : s.Since vm0 k0) (r3 : k0 ≤ h.size) (r4 : Z.Warmed39 vm0) (r5 : vm0.findClass own = some m.cls) (r6 : CHr Z EL s.vm s.heap vm0 h) (r7 : ∀ x ∈ sf, x < h.size ∧ Safe Z EL vm0 h x) (r8 : Fr Z.heap.size L) (ek : k + rm.cells = k') (en : n + rm.slots = n') :
    Wk p l e R s m args below meth c Z a0 EL own sf B.U B.U.heap k' n' := by
  obtain ⟨⟨q1, q2⟩, q3, q4, q5, q6⟩ := q
  rw [q3, q4, q5, ek, en] at X'
  obtain ⟨Y1, Y2, Y3, Y4⟩ := rebS r2 r3 X' hS hg r4 r5
  exact ⟨hxm, hl, hEW, hE, _, _, _, Y1, rfl, Y2, Nat.le_refl _, Y3, Y4, r6.trans q6, fun x hx => ⟨Nat.lt_of_lt_of_le (r7 x hx).1 hg, q6.safe (r7 x hx).1 (r7 x hx).2⟩, r8.app q2⟩
theorem Wk.callS {y : MethodName} {index Wt maxL : Nat} {bytes : ByteArray} {ret : Option FieldType} {rm : Room} {as' : Array Value} {sf' : List Addr} {argsL : List Value} {Qc : Option Value → Heap → Prop} (W : Wk p l e R s m args below meth c Z a0 EL own sf T h k n) (w1 : (Cond.methodLink own index y).before a0 Z = true) (w2 : (Cond.static y).before a0 Z = true) (w3 : (Cond.initialized y.cls).before a0 Z = true) (w4 : (Cond.code y bytes maxL ret).before a0 Z = true) (hy : y.cls ≠ "java/lang/invoke/MethodHandle" ∧ y.cls ≠ "java/lang/invoke/VarHandle")
    (hM : Con l Z EL sf' y bytes maxL ret [] rm as' h Qc) (hsf : ∀ x ∈ sf', x ∈ sf) (hf : rm.frames + 1 ≤ R.frames) (hl : Wt + (maxL + 11) + rm.locals ≤ R.locals) (ek : k + rm.cells = k') (en : n + rm.slots = n') (hk : k' ≤ R.cells) (hn : n' ≤ R.slots) (hsz : Ls.size = c.maxLocals) (hlen : ∀ sig, parseMethodDescriptor y.desc = some sig → argsL.length = sig.parameters.length) (hst : stk = argsL.reverse ++ rest) (has : argsL.toArray = as') (hW : (rest.map fun v => v.category).sum ≤ Wt) (hd : decode c.code pc = .ok (.invokestatic index, 3))
    (go : ∀ v T' h', Wk p l e R s m args below meth c Z a0 EL own sf T' h' k' n' → Qc v h' → Go p e below s Z EL rc rs Q (T'.setTop (mkF m (pc + 3) Ls (v.toList ++ rest)))) : Go p e below s Z EL rc rs Q (T.setTop (mkF m pc Ls stk)) := by
  obtain ⟨u1, u2, u3, u4, vm0, k0, L, X, rfl, r2, r3, r4, r5, r6, r7, r8⟩ := W
  obtain ⟨v, vm₁, B, -, X', hS, hg, ⟨Lc, q⟩, st⟩ := callSS X u1 (y := y) r5 (mvT (s := s.setVm vm0) r4 w1) (mvT (s := s.setVm vm0) r4 w2) (mvT (s := s.setVm vm0) r4 w3) (mvT (s := s.setVm vm0) r4 w4) hy (backK (Wt := Wt) hM r4 w4 w3 hf hl u3 r6.1 fun x hx => r7 x (hsf x hx)) (g := mkF m pc Ls stk) rfl hsz (argsL := argsL) (rest := rest) hlen hst (by show 2 * 0 + _ ≤ _; omega) hd (fun _ _ => ⟨has, rfl, by rw [ek]; exact hk, by rw [en]; exact hn⟩)
  exact Go.of st (go v B.U B.U.heap (Wk.came u1 u2 u3 u4 X' hS hg q r2 r3 r4 r5 r6 r7 r8 ek en) q.1.1)
theorem Wk.callI {y : MethodName} {index Wt maxL : Nat} {bytes : ByteArray} {rm : Room} {as' : Array Value} {sf' : List Addr} {a : Addr} {argsL : List Value} {Qc : Option Value → Heap → Prop} (W : Wk p l e R s m args below meth c Z a0 EL own sf T h k n) (hy1 : y.name = "<init>") (w1 : (Cond.methodLink own index y).before a0 Z = true) (w2 : (Cond.instanceMethod y).before a0 Z = true) (w3 : (Cond.initialized y.cls).before a0 Z = true) (w4 : (Cond.code y bytes maxL none).before a0 Z = true) (hy : y.cls ≠ "java/lang/invoke/MethodHandle" ∧ y.cls ≠ "java/lang/invoke/VarHandle")
    (hM : Con l Z EL sf' y bytes maxL none [] rm as' h Qc) (hsf : ∀ x ∈ sf', x ∈ sf) (hf : rm.frames + 1 ≤ R.frames) (hl : Wt + (maxL + 11) + rm.locals ≤ R.locals) (ek : k + rm.cells = k') (en : n + rm.slots = n') (hk : k' ≤ R.cells) (hn : n' ≤ R.slots) (hsz : Ls.size = c.maxLocals) (hlen : ∀ sig, parseMethodDescriptor y.desc = some sig → argsL.length = sig.parameters.length) (hst : stk = argsL.reverse ++ .ref a :: rest) (has : (.ref a :: argsL).toArray = as') (hW : (rest.map fun v => v.category).sum ≤ Wt) (hd : decode c.code pc = .ok (.invokespecial index, 3))
    (go : ∀ v T' h', Wk p l e R s m args below meth c Z a0 EL own sf T' h' k' n' → Qc v h' → Go p e below s Z EL rc rs Q (T'.setTop (mkF m (pc + 3) Ls (v.toList ++ rest)))) : Go p e below s Z EL rc rs Q (T.setTop (mkF m pc Ls stk)) := by
  obtain ⟨u1, u2, u3, u4, vm0, k0, L, X, rfl, r2, r3, r4, r5, r6, r7, r8⟩ := W
  obtain ⟨v, vm₁, B, -, X', hS, hg, ⟨Lc, q⟩, st⟩ := X.specialBackS u1 (y := y) hy1 r5 (mvT (s := s.setVm vm0) r4 w1) (mvT (s := s.setVm vm0) r4 w2) (mvT (s := s.setVm vm0) r4 w4) hy (backK (Wt := Wt) hM r4 w4 w3 hf hl u3 r6.1 fun x hx => r7 x (hsf x hx)) (g := mkF m pc Ls stk) rfl hsz (Steps.refl _) (a := a) (argsL := argsL) (rest := rest) hlen hst (by show 2 * 0 + _ ≤ _; omega) hd (fun _ _ => ⟨has, rfl, by rw [ek]; exact hk, by rw [en]; exact hn⟩)
  exact Go.of st (go v B.U B.U.heap (Wk.came u1 u2 u3 u4 X' hS hg q r2 r3 r4 r5 r6 r7 r8 ek en) q.1.1)
theorem Wk.callV {y z : MethodName} {index Wt maxL : Nat} {C : String} {bytes : ByteArray} {ret : Option FieldType} {rm : Room} {as' : Array Value} {sf' : List Addr} {a : Addr} {argsL : List Value} {Qc : Option Value → Heap → Prop} (W : Wk p l e R s m args below meth c Z a0 EL own sf T h k n) (w1 : (Cond.methodLink own index y).before a0 Z = true) (w2 : (Cond.declares y).before a0 Z = true) (hnf : ∀ vm : Vm, Z.Warmed39 vm → NotFace (s.setVm vm) y) (w3 : (Cond.selects C y z).before a0 Z = true) (w5 : (Cond.instanceMethod z).before a0 Z = true) (w6 : (Cond.initialized z.cls).before a0 Z = true) (w4 : (Cond.code z bytes maxL ret).before a0 Z = true) (hy : y.cls ≠ "java/lang/invoke/MethodHandle" ∧ y.cls ≠ "java/lang/invoke/VarHandle") (E : Exa Z h a C)
    (hM : Con l Z EL sf' z bytes maxL ret [] rm as' h Qc) (hsf : ∀ x ∈ sf', x ∈ sf) (hf : rm.frames + 1 ≤ R.frames) (hl : Wt + (maxL + 11) + rm.locals ≤ R.locals) (ek : k + rm.cells = k') (en : n + rm.slots = n') (hk : k' ≤ R.cells) (hn : n' ≤ R.slots) (hsz : Ls.size = c.maxLocals) (hlen : ∀ sig, parseMethodDescriptor y.desc = some sig → argsL.length = sig.parameters.length) (hst : stk = argsL.reverse ++ .ref a :: rest) (has : (.ref a :: argsL).toArray = as') (hW : (rest.map fun v => v.category).sum ≤ Wt) (hd : decode c.code pc = .ok (.invokevirtual index, 3))
    (go : ∀ v T' h', Wk p l e R s m args below meth c Z a0 EL own sf T' h' k' n' → Qc v h' → Go p e below s Z EL rc rs Q (T'.setTop (mkF m (pc + 3) Ls (v.toList ++ rest)))) : Go p e below s Z EL rc rs Q (T.setTop (mkF m pc Ls stk)) := by
  obtain ⟨u1, u2, u3, u4, vm0, k0, L, X, rfl, r2, r3, r4, r5, r6, r7, r8⟩ := W
  obtain ⟨cq, kq, qa, qb, qc⟩ := isOf (s := s.setVm vm0) (T := T) r4 rfl E
  obtain ⟨v, vm₁, B, -, X', hS, hg, ⟨Lc, q⟩, st⟩ := X.virtualBackS u1 (y := y) (z := z) r5 (mvT (s := s.setVm vm0) r4 w1) (mvT (s := s.setVm vm0) r4 w2) (hnf vm0 r4) (mvT (s := s.setVm vm0) r4 w3) (mvT (s := s.setVm vm0) r4 w5) hy (backK (Wt := Wt) hM r4 w4 w6 hf hl u3 r6.1 fun x hx => r7 x (hsf x hx)) qa qc (g := mkF m pc Ls stk) rfl hsz (Steps.refl _) (argsL := argsL) (rest := rest) hlen hst (by show 2 * 0 + _ ≤ _; omega) hd (fun _ _ => ⟨has, rfl, by rw [ek]; exact hk, by rw [en]; exact hn⟩)
  exact Go.of st (go v B.U B.U.heap (Wk.came u1 u2 u3 u4 X' hS hg q r2 r3 r4 r5 r6 r7 r8 ek en) q.1.1)
theorem nf_sel {y z : MethodName} {C : String} (hyz : y = z) (w3 : (Cond.selects C y z).before a0 Z = true) : ∀ vm : Vm, Z.Warmed39 vm → NotFace (s.setVm vm) y := fun vm hv => by
  subst hyz; exact notFace_of_selects (args := #[]) (mvT (s := s.setVm vm) hv w3)
theorem cat1 {v : Value} (h : v.isRef = true) : v.category = 1 := by cases v <;> simp [Value.isRef, Value.category] at h ⊢
theorem fits_ref_of {ty : FieldType} {v : Value} (h : v.isRef = true) (ht : ty.isReference = true := by rfl) : fits ty v = true := by cases ty <;> first | (cases ht; done) | (cases v <;> simp [fits, Value.isRef] at h ⊢)
theorem narrow_ref_of {ty : FieldType} {v : Value} (h : v.isRef = true) : narrow ty v = v := by cases v <;> first | (simp [Value.isRef] at h; done) | (cases ty <;> rfl)
theorem iremW {tb : Tables} [Ours tb] {target : State} {g : JFrame} (hh : At T m c below) (hx : tb.exec = Jvm.exec) (hg : g.method = m) {x y : Int32} (hd : decode c.code g.pc = .ok (.irem, 1)) (hs : g.stack = .int y :: .int x :: rest) (hy : y ≠ 0) (hr : Steps tb e below (T.setTop { g with pc := g.pc + 1, stack := .int (x % y) :: rest }) target) : Steps tb e below (T.setTop g) target := by
  have q : x - x / y * y = x % y := irem_eq_mod x y
  exact XS.irem hh hx hg hd hs hy (by rw [q]; exact hr)
theorem acmpW {g : JFrame} {target : State} (W : Wk p l e R s m args below meth c Z a0 EL own sf T h k n) (hg : g.method = m) {cd : ACond} {x y : Value} (h1 : x.isRef = true) (h2 : y.isRef = true) {o : Int} {pc0 pc' : Nat} {same : Bool} (hpc : g.pc = pc0) (hd : decode c.code g.pc = .ok (.if_acmp cd o, 3)) (hs : g.stack = y :: x :: rest) (hq : decide (x = y) = same) (ho : 0 ≤ (pc0 : Int) + o) (hp : pc' = if acV cd same = true then ((pc0 : Int) + o).toNat else pc0 + 3)
    (hr : Steps p.tables e below (T.setTop { g with pc := pc', stack := rest }) target) : Steps p.tables e below (T.setTop g) target := by
  obtain ⟨w1, w2, w3, w4, vm0, k0, L, X, r⟩ := W
  exact Jvm.RoadKit.acmp X w1 hg h1 h2 hpc hd hs hq ho hp hr
theorem Wk.retJ {z : Int64} (W : Wk p l e R s m args below meth c Z a0 EL own sf T h k n) (hk : k ≤ rc) (hn : n ≤ rs) (hret : meth.sig.returnType = some .long) (hd : decode c.code pc = .ok (.lreturn, 1)) (q : Q (some (.long z)) h) : Go p e below s Z EL rc rs Q (T.setTop (mkF m pc Ls (.long z :: rest))) :=
  W.ret hk hn (fun h => by rw [hret] at h; cases h) q fun X fs hr => retOut X W.hx hret rfl (Or.inr (Or.inl ⟨rfl, rfl, z, rfl⟩)) hd hr
theorem Wk.callSp {y : MethodName} {index Wt maxL : Nat} {bytes : ByteArray} {ret : Option FieldType} {rm : Room} {as' : Array Value} {sf' : List Addr} {argsL : List Value} {r : Option Value} (W : Wk p l e R s m args below meth c Z a0 EL own sf T h k n) (w1 : (Cond.methodLink own index y).before a0 Z = true) (w2 : (Cond.static y).before a0 Z = true) (w3 : (Cond.initialized y.cls).before a0 Z = true) (w4 : (Cond.code y bytes maxL ret).before a0 Z = true) (hy : y.cls ≠ "java/lang/invoke/MethodHandle" ∧ y.cls ≠ "java/lang/invoke/VarHandle")
    (hM : Con l Z EL sf' y bytes maxL ret [] rm as' h (fun v h' => v = r ∧ h' = h)) (hsf : ∀ x ∈ sf', x ∈ sf) (hf : rm.frames + 1 ≤ R.frames) (hl : Wt + (maxL + 11) + rm.locals ≤ R.locals) (ek : k + rm.cells = k') (en : n + rm.slots = n') (hk : k' ≤ R.cells) (hn : n' ≤ R.slots) (hsz : Ls.size = c.maxLocals) (hlen : ∀ sig, parseMethodDescriptor y.desc = some sig → argsL.length = sig.parameters.length) (hst : stk = argsL.reverse ++ rest) (has : argsL.toArray = as') (hW : (rest.map fun v => v.category).sum ≤ Wt) (hd : decode c.code pc = .ok (.invokestatic index, 3))
    (go : ∀ T', Wk p l e R s m args below meth c Z a0 EL own sf T' h k' n' → Go p e below s Z EL rc rs Q (T'.setTop (mkF m (pc + 3) Ls (r.toList ++ rest)))) : Go p e below s Z EL rc rs Q (T.setTop (mkF m pc Ls stk)) :=
  W.callS w1 w2 w3 w4 hy hM hsf hf hl ek en hk hn hsz hlen hst has hW hd fun v T' h' W' ⟨q1, q2⟩ => by subst q1 q2; exact go T' W'
theorem Wk.callIp {y : MethodName} {index Wt maxL : Nat} {bytes : ByteArray} {rm : Room} {as' : Array Value} {sf' : List Addr} {a : Addr} {argsL : List Value} {r : Option Value} (W : Wk p l e R s m args below meth c Z a0 EL own sf T h k n) (hy1 : y.name = "<init>") (w1 : (Cond.methodLink own index y).before a0 Z = true) (w2 : (Cond.instanceMethod y).before a0 Z = true) (w3 : (Cond.initialized y.cls).before a0 Z = true) (w4 : (Cond.code y bytes maxL none).before a0 Z = true) (hy : y.cls ≠ "java/lang/invoke/MethodHandle" ∧ y.cls ≠ "java/lang/invoke/VarHandle")
    (hM : Con l Z EL sf' y bytes maxL none [] rm as' h (fun v h' => v = r ∧ h' = h)) (hsf : ∀ x ∈ sf', x ∈ sf) (hf : rm.frames + 1 ≤ R.frames) (hl : Wt + (maxL + 11) + rm.locals ≤ R.locals) (ek : k + rm.cells = k') (en : n + rm.slots = n') (hk : k' ≤ R.cells) (hn : n' ≤ R.slots) (hsz : Ls.size = c.maxLocals) (hlen : ∀ sig, parseMethodDescriptor y.desc = some sig → argsL.length = sig.parameters.length) (hst : stk = argsL.reverse ++ .ref a :: rest) (has : (.ref a :: argsL).toArray = as') (hW : (rest.map fun v => v.category).sum ≤ Wt) (hd : decode c.code pc = .ok (.invokespecial index, 3))
    (go : ∀ T', Wk p l e R s m args below meth c Z a0 EL own sf T' h k' n' → Go p e below s Z EL rc rs Q (T'.setTop (mkF m (pc + 3) Ls (r.toList ++ rest)))) : Go p e below s Z EL rc rs Q (T.setTop (mkF m pc Ls stk)) :=
  W.callI hy1 w1 w2 w3 w4 hy hM hsf hf hl ek en hk hn hsz hlen hst has hW hd fun v T' h' W' ⟨q1, q2⟩ => by subst q1 q2; exact go T' W'
theorem Wk.callVp {y z : MethodName} {index Wt maxL : Nat} {C : String} {bytes : ByteArray} {ret : Option FieldType} {rm : Room} {as' : Array Value} {sf' : List Addr} {a : Addr} {argsL : List Value} {r : Option Value} (W : Wk p l e R s m args below meth c Z a0 EL own sf T h k n) (w1 : (Cond.methodLink own index y).before a0 Z = true) (w2 : (Cond.declares y).before a0 Z = true) (hnf : ∀ vm : Vm, Z.Warmed39 vm → NotFace (s.setVm vm) y) (w3 : (Cond.selects C y z).before a0 Z = true) (w5 : (Cond.instanceMethod z).before a0 Z = true) (w6 : (Cond.initialized z.cls).before a0 Z = true) (w4 : (Cond.code z bytes maxL ret).before a0 Z = true) (hy : y.cls ≠ "java/lang/invoke/MethodHandle" ∧ y.cls ≠ "java/lang/invoke/VarHandle") (E : Exa Z h a C)
    (hM : Con l Z EL sf' z bytes maxL ret [] rm as' h (fun v h' => v = r ∧ h' = h)) (hsf : ∀ x ∈ sf', x ∈ sf) (hf : rm.frames + 1 ≤ R.frames) (hl : Wt + (maxL + 11) + rm.locals ≤ R.locals) (ek : k + rm.cells = k') (en : n + rm.slots = n') (hk : k' ≤ R.cells) (hn : n' ≤ R.slots) (hsz : Ls.size = c.maxLocals) (hlen : ∀ sig, parseMethodDescriptor y.desc = some sig → argsL.length = sig.parameters.length) (hst : stk = argsL.reverse ++ .ref a :: rest) (has : (.ref a :: argsL).toArray = as') (hW : (rest.map fun v => v.category).sum ≤ Wt) (hd : decode c.code pc = .ok (.invokevirtual index, 3))
    (go : ∀ T', Wk p l e R s m args below meth c Z a0 EL own sf T' h k' n' → Go p e below s Z EL rc rs Q (T'.setTop (mkF m (pc + 3) Ls (r.toList ++ rest)))) : Go p e below s Z EL rc rs Q (T.setTop (mkF m pc Ls stk)) :=
  W.callV w1 w2 hnf w3 w5 w6 w4 hy E hM hsf hf hl ek en hk hn hsz hlen hst has hW hd fun v T' h' W' ⟨q1, q2⟩ => by subst q1 q2; exact go T' W'
theorem Wk.callP {y : MethodName} {index Wt maxL : Nat} {C : String} {bytes : ByteArray} {ret : Option FieldType} {rm : Room} {as' : Array Value} {sf' : List Addr} {a : Addr} {argsL : List Value} {Qc : Option Value → Heap → Prop} (W : Wk p l e R s m args below meth c Z a0 EL own sf T h k n) (w1 : (Cond.methodLink own index y).before a0 Z = true) (w2 : (Cond.instanceMethod y).before a0 Z = true) (w3 : (Cond.selects y.cls y y).before a0 Z = true) (w5 : (Cond.privateMethod y).before a0 Z = true) (w6 : (Cond.initialized y.cls).before a0 Z = true) (w4 : (Cond.code y bytes maxL ret).before a0 Z = true) (hy : y.cls ≠ "java/lang/invoke/MethodHandle" ∧ y.cls ≠ "java/lang/invoke/VarHandle") (E : Exa Z h a C)
    (hM : Con l Z EL sf' y bytes maxL ret [] rm as' h Qc) (hsf : ∀ x ∈ sf', x ∈ sf) (hf : rm.frames + 1 ≤ R.frames) (hl : Wt + (maxL + 11) + rm.locals ≤ R.locals) (ek : k + rm.cells = k') (en : n + rm.slots = n') (hk : k' ≤ R.cells) (hn : n' ≤ R.slots) (hsz : Ls.size = c.maxLocals) (hlen : ∀ sig, parseMethodDescriptor y.desc = some sig → argsL.length = sig.parameters.length) (hst : stk = argsL.reverse ++ .ref a :: rest) (has : (.ref a :: argsL).toArray = as') (hW : (rest.map fun v => v.category).sum ≤ Wt) (hd : decode c.code pc = .ok (.invokevirtual index, 3))
    (go : ∀ v T' h', Wk p l e R s m args below meth c Z a0 EL own sf T' h' k' n' → Qc v h' → Go p e below s Z EL rc rs Q (T'.setTop (mkF m (pc + 3) Ls (v.toList ++ rest)))) : Go p e below s Z EL rc rs Q (T.setTop (mkF m pc Ls stk)) := by
  obtain ⟨u1, u2, u3, u4, vm0, k0, L, X, rfl, r2, r3, r4, r5, r6, r7, r8⟩ := W
  obtain ⟨cq, q1, q2⟩ := E.cell
  obtain ⟨v, vm₁, B, -, X', hS, hg, ⟨Lc, q⟩, st⟩ := X.privateBackS u1 (y := y) r5 (mvT (s := s.setVm vm0) r4 w1) (mvT (s := s.setVm vm0) r4 w2) (mvT (s := s.setVm vm0) r4 w3) (Cond.privateMethod_at (mvP (s := s.setVm vm0) r4 w5 (args := #[]))) (mvT (s := s.setVm vm0) r4 w4) hy (backK (Wt := Wt) hM r4 w4 w6 hf hl u3 r6.1 fun x hx => r7 x (hsf x hx)) (g := mkF m pc Ls stk) rfl hsz (Steps.refl _) (a := a) q1 q2 (argsL := argsL) (rest := rest) hlen hst (by show 2 * 0 + _ ≤ _; omega) hd (fun _ _ => ⟨has, rfl, by rw [ek]; exact hk, by rw [en]; exact hn⟩)
  exact Go.of st (go v B.U B.U.heap (Wk.came u1 u2 u3 u4 X' hS hg q r2 r3 r4 r5 r6 r7 r8 ek en) q.1.1)
theorem Wk.ldcI {index : Nat} {v : Int32} (W : Wk p l e R s m args below meth c Z a0 EL own sf T h k n) (w : (Cond.constant own index v).before a0 Z = true) (hd : decode c.code pc = .ok (.ldc index, 2)) (go : Go p e below s Z EL rc rs Q (T.setTop (mkF m (pc + 2) Ls (.int v :: stk)))) : Go p e below s Z EL rc rs Q (T.setTop (mkF m pc Ls stk)) := by
  obtain ⟨w1, w2, w3, w4, vm0, k0, L, X, r1, r2, r3, r4, r5, r⟩ := W
  exact Go.by (X.ldcInt w1 r5 (mvT (s := s.setVm vm0) r4 w) (g := mkF m pc Ls stk) rfl hd) go
theorem Wk.ldcJ {index : Nat} {v : Int64} (W : Wk p l e R s m args below meth c Z a0 EL own sf T h k n) (w : (Cond.constantLong own index v).before a0 Z = true) (hd : decode c.code pc = .ok (.ldc2_w index, 3)) (go : Go p e below s Z EL rc rs Q (T.setTop (mkF m (pc + 3) Ls (.long v :: stk)))) : Go p e below s Z EL rc rs Q (T.setTop (mkF m pc Ls stk)) := by
  obtain ⟨w1, w2, w3, w4, vm0, k0, L, X, r1, r2, r3, r4, r5, r⟩ := W
  exact Go.by (X.ldc2Long w1 r5 (mvT (s := s.setVm vm0) r4 w) (g := mkF m pc Ls stk) rfl hd) go
theorem Wk.cloneA {index Wt cap : Nat} {ad : String} {a : Addr} {kA : ClassId} {ty : FieldType} {z : Int32} {vs : List Value} {dv : Value} (W : Wk p l e R s m args below meth c Z a0 EL own sf T h k n) (w1 : (Cond.methodLink own index ⟨ad, "clone", "()Ljava/lang/Object;"⟩).before a0 Z = true) (w2 : (Cond.sameMethod ad "java/lang/Object" "clone" "()Ljava/lang/Object;").before a0 Z = true) (w3 : (Cond.native ⟨"java/lang/Object", "clone", "()Ljava/lang/Object;"⟩).before a0 Z = true)
    (w4 : (Cond.instanceMethod ⟨"java/lang/Object", "clone", "()Ljava/lang/Object;"⟩).before a0 Z = true) (w5 : (Cond.selects ad ⟨ad, "clone", "()Ljava/lang/Object;"⟩ ⟨"java/lang/Object", "clone", "()Ljava/lang/Object;"⟩).before a0 Z = true) (w6 : (Cond.castable ad "java/lang/Cloneable").before a0 Z = true) (F : Arv Z h a kA ty z vs dv) (E : Exa Z h a ad) (hsz : Ls.size = c.maxLocals) (hd : decode c.code pc = .ok (.invokevirtual index, 3))
    (hf : 1 ≤ R.frames) (hW : (rest.map fun v => v.category).sum ≤ Wt) (hl : Wt + 14 ≤ R.locals) (hcap : z.toNatClampNeg ≤ cap) (ek : k + 1 = k') (en : n + cap = n') (hk : k' ≤ R.cells) (hn : n' ≤ R.slots)
    (go : ∀ T' h' x, Wk p l e R s m args below meth c Z a0 EL own (x :: sf) T' h' k' n' → Ext h h' → h.size = x → Z.heap.size ≤ x → Arv Z h' x kA ty z vs dv → Exa Z h' x ad → Go p e below s Z EL rc rs Q (T'.setTop (mkF m (pc + 3) Ls (.ref x :: rest)))) : Go p e below s Z EL rc rs Q (T.setTop (mkF m pc Ls (.ref a :: rest))) := by
  have hO := W.old
  obtain ⟨u1, u2, u3, u4, vm0, k0, L, X, r1, r2, r3, r4, r5, r6, r7, r8⟩ := W
  subst ek en
  obtain ⟨T', h', X', e', E', A, D, st⟩ := cloneH X u1 r4 r5 w1 w2 w3 w4 w5 w6 r1 F.arh E (g := mkF m pc Ls (.ref a :: rest)) rfl hsz rfl hd hf (W := Wt) (by show 2 * 0 + _ ≤ _; omega) hl hcap hk hn
  exact Go.by st (go T' h' _ (Wk.grew u1 u2 u3 u4 X' e' E' D.lt (Nat.le_refl _) r2 r3 r4 r5 r6 r7 r8) E' rfl hO.1 A D)
/-- the terms elem t i, elem t (i + 1), .. hold vs -/
def HasE (args : Array Value) (Z : State) (t : Term) : Nat → List Value → Prop
  | _, [] => True
  | i, v :: vs => (Term.elem t (.int (Int32.ofNat i))).eval args Z none [] Z = some v ∧ HasE args Z t (i + 1) vs
theorem clampN {i : Nat} (h : i < 2 ^ 31) : (Int32.ofNat i).toNatClampNeg = i := by
  have := Int32.toInt_ofNat_small h
  rw [Int32.toNatClampNeg, this]; simp
theorem HasE.has {t : Term} {a : Addr} {cl : Cell} (ev : t.eval args Z none [] Z = some (.ref a)) (hc : Z.heap[a]? = some cl) : ∀ (vs : List Value) (i : Nat), i + vs.length < 2 ^ 31 → HasE args Z t i vs → HasL cl i vs
  | [], i, _, _ => trivial
  | v :: vs, i, hi, H => by
    have hl : (v :: vs).length = vs.length + 1 := rfl
    refine ⟨?_, HasE.has ev hc vs (i + 1) (by omega) H.2⟩
    have q := (elem_in H.1 ev (Term.int_eval _) hc).2
    rwa [clampN (by omega)] at q
theorem arv_of {t : Term} {a : Addr} {ty : FieldType} {z : Int32} {vs : List Value} {dv : Value} (hf : Fit Z) (ev : t.eval args Z none [] Z = some (.ref a)) (hA : (Cond.arrayOf t ty).value args Z none Z [] = some true) (hl : (Term.length t).eval args Z none [] Z = some (.int z)) (hz : ¬ z < 0) (hn : z.toNatClampNeg = vs.length) (hb : vs.length < 2 ^ 31) (H : HasE args Z t 0 vs) : ∃ k, Arv Z Z.heap a k ty z vs dv := by
  obtain ⟨cl, A⟩ := Arr.start ev hA
  have h1 := A.fin (Vm.Alike.refl _)
  have h31 := Jvm.Free.SBG.length_lt ev h1 hl
  have e1 := len_f ev h1 h31
  have e2 : cl.slots.size.toInt32 = z := by simpa using Option.some.inj (e1.symm.trans hl)
  exact ⟨cl.cls, Arv.start hf A h31 e2 hz hn (HasE.has ev A.1 vs 0 (by omega) H)⟩
theorem Wk.callSr {y : MethodName} {index Wt maxL : Nat} {bytes : ByteArray} {ret : Option FieldType} {rm : Room} {as' : Array Value} {sf' : List Addr} {argsL : List Value} {P : Option Value → Prop} (W : Wk p l e R s m args below meth c Z a0 EL own sf T h k n) (w1 : (Cond.methodLink own index y).before a0 Z = true) (w2 : (Cond.static y).before a0 Z = true) (w3 : (Cond.initialized y.cls).before a0 Z = true) (w4 : (Cond.code y bytes maxL ret).before a0 Z = true) (hy : y.cls ≠ "java/lang/invoke/MethodHandle" ∧ y.cls ≠ "java/lang/invoke/VarHandle")
    (hM : Con l Z EL sf' y bytes maxL ret [] rm as' h (fun v h' => P v ∧ h' = h)) (hsf : ∀ x ∈ sf', x ∈ sf) (hf : rm.frames + 1 ≤ R.frames) (hl : Wt + (maxL + 11) + rm.locals ≤ R.locals) (ek : k + rm.cells = k') (en : n + rm.slots = n') (hk : k' ≤ R.cells) (hn : n' ≤ R.slots) (hsz : Ls.size = c.maxLocals) (hlen : ∀ sig, parseMethodDescriptor y.desc = some sig → argsL.length = sig.parameters.length) (hst : stk = argsL.reverse ++ rest) (has : argsL.toArray = as') (hW : (rest.map fun v => v.category).sum ≤ Wt) (hd : decode c.code pc = .ok (.invokestatic index, 3))
    (go : ∀ v T', Wk p l e R s m args below meth c Z a0 EL own sf T' h k' n' → P v → Go p e below s Z EL rc rs Q (T'.setTop (mkF m (pc + 3) Ls (v.toList ++ rest)))) : Go p e below s Z EL rc rs Q (T.setTop (mkF m pc Ls stk)) :=
  W.callS w1 w2 w3 w4 hy hM hsf hf hl ek en hk hn hsz hlen hst has hW hd fun v T' h' W' ⟨q1, q2⟩ => by subst q2; exact go v T' W' q1
end Kit
section KitStr
variable {p : Program} {l : Launch} {e : Env} {R : Room} {s : State} {m : MethodId} {args : Array Value} {below : List Frame} {meth : Method} {c : Code} {Z : State} {a0 : Array Value} {EL : List (String × Nat)} {own : String} {sf : List Addr} {T : State} {h h' h0 : Heap} {k n k' n' rc rs pc : Nat} {Ls : Array Slot} {stk rest : List Value} {Q : Option Value → Heap → Prop} {a x : Addr} {cs ds : List Int32}
/-- the object at a is a String that spells cs -/
def Str (Z : State) (h : Heap) (a : Addr) (cs : List Int32) : Prop := ∃ (t : Addr) (kb : ClassId) (cd N2 : Int32) (vs : List Value), Exa Z h a "java/lang/String" ∧ Fld Z h a "java/lang/String" "value" "[B" (.ref t) ∧ Fld Z h a "java/lang/String" "coder" "B" (.int cd) ∧ Arv Z h t kb .byte N2 vs (.int 0) ∧ StrChars.Road.CodA cs cd N2 vs ∧ (∀ c ∈ cs, ¬ c < 0 ∧ ¬ (65535 : Int32) < c)
theorem Str.ext (S : Str Z h a cs) (E : Ext h h') : Str Z h' a cs := by
  obtain ⟨t, kb, cd, N2, vs, s1, s2, s3, s4, s5, s6⟩ := S; exact ⟨t, kb, cd, N2, vs, s1.ext E, s2.ext E, s3.ext E, s4.ext E, s5, s6⟩
theorem Str.exa (S : Str Z h a cs) : Exa Z h a "java/lang/String" := by obtain ⟨t, kb, cd, N2, vs, s1, -⟩ := S; exact s1
theorem Str.lt (S : Str Z h a cs) : a < h.size := S.exa.lt
theorem Str.keep {C : String} {N : Nat} (S : Str Z h a cs) (K : Keep h h' [x]) (E : Exa Z h x C) (wi : (Cond.instantiable C N).before a0 Z = true) (ne : a ≠ x) : Str Z h' a cs := by
  obtain ⟨t, kb, cd, N2, vs, s1, s2, s3, s4, s5, s6⟩ := S
  exact ⟨t, kb, cd, N2, vs, s1.keep K, s2.keep K (ninS ne nin0), s3.keep K (ninS ne nin0), s4.keep K (ninS (Ne.symm (E.neArv s4 wi)) nin0), s5, s6⟩
theorem Str.wr {C : String} {N sl : Nat} {v : Value} (S : Str Z h a cs) (W : Wr h h' x sl v) (E : Exa Z h x C) (wi : (Cond.instantiable C N).before a0 Z = true) (ne : a ≠ x) : Str Z h' a cs := S.keep (Keep.of_wr W) E wi ne
theorem Ext.trans' {h h1 h2 : Heap} (A : Ext h h1) (B : Ext h1 h2) : Ext h h2 := ⟨Nat.le_trans A.1 B.1, fun a c q => B.2 a c (A.2 a c q)⟩
theorem Ext.refl' (h : Heap) : Ext h h := ⟨Nat.le_refl _, fun _ _ q => q⟩
theorem Ext.keep' {h h1 h2 : Heap} {ws : List Addr} (A : Ext h h1) (K : Keep h1 h2 ws) (q : ∀ x ∈ ws, h.size ≤ x) : Ext h h2 := ⟨Nat.le_trans A.1 K.1, fun a c r => K.2.1 a c (A.2 a c r) fun z => absurd (Array.getElem?_eq_some_iff.mp r).1 (Nat.not_lt.mpr (q a z))⟩
theorem Ext.wr' {h h1 h2 : Heap} {x : Addr} {sl : Nat} {v : Value} (A : Ext h h1) (W : Wr h1 h2 x sl v) (q : h.size ≤ x) : Ext h h2 := Ext.keep' A (Keep.of_wr W) (allS q all0)
theorem Wk.kept {ws : List Addr} {T' : State} {L : List Loc} {vm0 : Vm} {k0 : Nat} (hxm : p.tables.exec = Jvm.exec) (hl : meth.locks = false) (hEW : EW Z a0 EL) (hE : Ext Z.heap s.heap) (X' : Stand p l e R (s.setVm vm0) m args below meth c T' L k' n') (e' : T'.heap = h') (K : Keep h h' ws) (hws : ∀ x ∈ ws, x ∈ sf) (r2 : s.Since vm0 k0) (r3 : k0 ≤ h.size) (r4 : Z.Warmed39 vm0) (r5 : vm0.findClass own = some m.cls) (r6 : CHr Z EL s.vm s.heap vm0 h) (r7 : ∀ x ∈ sf, x < h.size ∧ Safe Z EL vm0 h x) (r8 : Fr Z.heap.size L) :
    Wk p l e R s m args below meth c Z a0 EL own sf T' h' k' n' :=
  ⟨hxm, hl, hEW, hE, vm0, k0, L, X', e', r2, Nat.le_trans r3 K.1, r4, r5, r6.trans (CHr.keep K (fun x hx => (r7 x (hws x hx)).2) r6.1), fun y hy => ⟨Nat.lt_of_lt_of_le (r7 y hy).1 K.1, Safe.keep K (fun x hx => (r7 x (hws x hx)).2) r6.1 (r7 y hy).2⟩, r8⟩
theorem pdCs : parseMethodDescriptor "([C)V" = some ⟨[(.array .char)], none⟩ := by decide +kernel
/-- new String(chars): 1 to 4000 chars, each below 256 -/
theorem Wk.strV {index Wt q : Nat} {b : Addr} {kC : ClassId} {dv v0 c0 : Value} {z N : Int32} (W : Wk p l e R s m args below meth c Z a0 EL own sf T h k n) (hws : ∀ d ∈ StrChars.Road.words, d.before a0 Z = true) (wi : (Cond.instantiable "java/lang/String" 4).before a0 Z = true) (w1 : (Cond.methodLink own index ⟨"java/lang/String", "<init>", "([C)V"⟩).before a0 Z = true) (w2 : (Cond.instanceMethod ⟨"java/lang/String", "<init>", "([C)V"⟩).before a0 Z = true)
    (E : Exa Z h x "java/lang/String") (V : Fld Z h x "java/lang/String" "value" "[B" v0) (C : Fld Z h x "java/lang/String" "coder" "B" c0) (K : Arv Z h b kC .char N (cs.map Value.int) dv) (S : Sta Z h "java/lang/String" "COMPACT_STRINGS" "Z" (.int z)) (hz : ¬ z = 0) (hq : cs.length = q) (hN : N = Int32.ofNat q) (l0 : 0 < q) (l2 : q ≤ 4000) (hp : ∀ c ∈ cs, ¬ c < 0 ∧ ¬ (255 : Int32) < c) (hx : Z.heap.size ≤ x) (hs : x ∈ sf)
    (hf : 4 ≤ R.frames) (hl : Wt + 65 ≤ R.locals) (ek : k + 1 = k') (en : n + q = n') (hk : k' ≤ R.cells) (hn : n' ≤ R.slots) (hsz : Ls.size = c.maxLocals) (hW : (rest.map fun v => v.category).sum ≤ Wt) (hd : decode c.code pc = .ok (.invokespecial index, 3))
    (go : ∀ T' h', Wk p l e R s m args below meth c Z a0 EL own sf T' h' k' n' → Keep h h' [x] → Str Z h' x cs → Go p e below s Z EL rc rs Q (T'.setTop (mkF m (pc + 3) Ls rest))) : Go p e below s Z EL rc rs Q (T.setTop (mkF m pc Ls (.ref b :: .ref x :: rest))) := by
  have hO := W.old
  obtain ⟨u1, u2, u3, u4, vm0, k0, L, X, rfl, r2, r3, r4, r5, r6, r7, r8⟩ := W
  obtain ⟨v, vm₁, ⟨T', L', k1, n1⟩, -, X', ⟨Lc, hQ, l', y', z'⟩, st⟩ := X.specialBack u1 (y := (⟨"java/lang/String", "<init>", "([C)V"⟩ : MethodName)) rfl r5 (mvT (s := s.setVm vm0) r4 w1) (mvT (s := s.setVm vm0) r4 w2) (mvT (s := s.setVm vm0) r4 (hws _ (List.mem_cons_self ..))) (by decide)
    (StrChars.Road.backV (W := Wt) (s := s.setVm vm0) r4 hws wi (bs := cs.map (fun c => c.toInt8.toInt32)) hx hO.1 E V C K S hz hq hN l0 l2 hp rfl hf hl) (g := mkF m pc Ls (.ref b :: .ref x :: rest)) rfl hsz (Steps.refl _) (a := x) (argsL := [.ref b]) (rest := rest) (lenOf pdCs rfl) rfl (by show 2 * 0 + _ ≤ _; omega) hd (fun _ _ => ⟨rfl, rfl, by rw [ek]; exact hk, by rw [en]; exact hn⟩)
  dsimp only [Pt.U, Pt.locs, Pt.cells, Pt.slots] at X' l' y' z' st hQ
  subst l' y' z'
  obtain ⟨rfl, N', K', g1, g2, t, kb, -, -, -, g3, g4⟩ := hQ
  rw [ek, en] at X'
  subst hq hN
  exact Go.of st (go T' T'.heap (Wk.kept u1 u2 u3 u4 X' rfl K' (allS hs all0) r2 r3 r4 r5 r6 r7 (r8.app N')) K' ⟨t, kb, 0, _, _, g1, g3, g2, g4, StrChars.Road.codOf rfl (fun c hc => (hp c hc).2), fun c hc => ⟨(hp c hc).1, fun q => (hp c hc).2 (by rw [Int32.lt_iff_toInt_lt] at q ⊢; have e1 : (65535 : Int32).toInt = 65535 := rfl; have e2 : (255 : Int32).toInt = 255 := rfl; omega)⟩⟩)
/-! literals -/
/-- ldc of a String literal, whose text isn't asked -/
theorem Wk.ldcO {index q : Nat} {text : String} (W : Wk p l e R s m args below meth c Z a0 EL own sf T h k n) (w : (Cond.stringLink own index text).before a0 Z = true) (wS : ∀ a ∈ Bundle.stringAtoms, a.before a0 Z = true) (hd : decode c.code pc = .ok (.ldc index, 2)) (hq : 4 * text.toList.length ≤ q) (hbig : q ≤ 536870912) (ek : k + 2 = k') (en : n + (q + 4) = n') (hk : k' ≤ R.cells) (hn : n' ≤ R.slots)
    (go : ∀ T' h' a, Wk p l e R s m args below meth c Z a0 EL own sf T' h' k' n' → Ext h h' → Go p e below s Z EL rc rs Q (T'.setTop (mkF m (pc + 2) Ls (.ref a :: stk)))) : Go p e below s Z EL rc rs Q (T.setTop (mkF m pc Ls stk)) := by
  obtain ⟨u1, u2, u3, u4, vm0, k0, L, X, r1, r2, r3, r4, r5, r6, r7, r8⟩ := W
  subst ek en
  obtain ⟨a, T', h', k1, X', e', E, hS, hk1, hW, hf, hC, -, st⟩ := ldcOH X u1 r4 r5 w wS r1 r2 r3 u3 r6.1 (g := mkF m pc Ls stk) rfl hd hq hbig hk hn
  exact Go.by st (go T' h' a ⟨u1, u2, u3, u4, T'.vm, k1, L, X', e', hS, hk1, hW, hf, r6.trans hC, fun x hx => ⟨Nat.lt_of_lt_of_le (r7 x hx).1 E.1, hC.safe (r7 x hx).1 (r7 x hx).2⟩, r8⟩ E)
/-- ldc of a String literal, read -/
theorem Wk.ldcC {index q : Nat} {text : String} (W : Wk p l e R s m args below meth c Z a0 EL own sf T h k n) (w : (Cond.stringLink own index text).before a0 Z = true) (wS : ∀ a ∈ Bundle.stringAtoms, a.before a0 Z = true) (hmem : (own, index) ∈ EL) (ht : (∀ c ∈ text.toList, c.toNat < 256) ∧ text.toList.map (fun c => Value.int (Jvm.Lit.byteI c.toNat.toUInt16)) = cs.map (fun c => Value.int (StrChars.lo8 c))) (hz : ¬ (Int32.ofNat cs.length) < 0) (hl : (Int32.ofNat cs.length).toNatClampNeg = cs.length) (hb : ∀ c ∈ cs, ¬ c < 0 ∧ ¬ (255 : Int32) < c ∧ ¬ (65535 : Int32) < c)
    (hd : decode c.code pc = .ok (.ldc index, 2)) (hq : 4 * text.toList.length ≤ q) (hbig : q ≤ 536870912) (ek : k + 2 = k') (en : n + (q + 4) = n') (hk : k' ≤ R.cells) (hn : n' ≤ R.slots)
    (go : ∀ T' h' a, Wk p l e R s m args below meth c Z a0 EL own sf T' h' k' n' → Ext h h' → Str Z h' a cs → (∀ x ∈ sf, x ≠ a) → Go p e below s Z EL rc rs Q (T'.setTop (mkF m (pc + 2) Ls (.ref a :: stk)))) : Go p e below s Z EL rc rs Q (T.setTop (mkF m pc Ls stk)) := by
  obtain ⟨u1, u2, u3, u4, vm0, k0, L, X, r1, r2, r3, r4, r5, r6, r7, r8⟩ := W
  subst ek en
  obtain ⟨a, T', h', k1, b, kb, X', e', E, hS, hk1, hW, hf, g1, g2, g3, g4, -, -, hC, -, hne, st⟩ := ldcCH X u1 r4 r5 w wS r1 r2 r3 u3 hmem r6.1 ht hz (by rw [hl, List.length_map]) (g := mkF m pc Ls stk) rfl hd hq hbig hk hn
  exact Go.by st (go T' h' a ⟨u1, u2, u3, u4, T'.vm, k1, L, X', e', hS, hk1, hW, hf, r6.trans hC, fun x hx => ⟨Nat.lt_of_lt_of_le (r7 x hx).1 E.1, hC.safe (r7 x hx).1 (r7 x hx).2⟩, r8⟩ E ⟨b, kb, 0, _, _, g1, g3, g2, g4, Or.inl ⟨rfl, rfl, rfl, fun c hc => (hb c hc).2.1⟩, fun c hc => ⟨(hb c hc).1, (hb c hc).2.2⟩⟩ fun x hx => (hne x (hC.safe (r7 x hx).1 (r7 x hx).2)).1)
/-! casts -/
theorem Wk.castY {index : Nat} {K : String} (W : Wk p l e R s m args below meth c Z a0 EL own sf T h k n) (w : (Cond.classLink own index K).before a0 Z = true) (F : Ins Z h a K true) (hd : decode c.code pc = .ok (.checkcast index, 3))
    (go : ∀ T', Wk p l e R s m args below meth c Z a0 EL own sf T' h k n → Go p e below s Z EL rc rs Q (T'.setTop (mkF m (pc + 3) Ls (.ref a :: rest)))) : Go p e below s Z EL rc rs Q (T.setTop (mkF m pc Ls (.ref a :: rest))) := by
  obtain ⟨w1, w2, w3, w4, vm0, k0, L, X, r1, r2, r3, r4, r5, r⟩ := W
  obtain ⟨T', X', e', st⟩ := Jvm.RoadKit.castY X w1 r4 r5 w r1 F (g := mkF m pc Ls (.ref a :: rest)) rfl rfl hd
  exact Go.by st (go T' ⟨w1, w2, w3, w4, vm0, k0, L, X', e', r2, r3, r4, r5, r⟩)
theorem Wk.instY {index : Nat} {K : String} (W : Wk p l e R s m args below meth c Z a0 EL own sf T h k n) (w : (Cond.classLink own index K).before a0 Z = true) (F : Ins Z h a K true) (hd : decode c.code pc = .ok (.instanceof index, 3))
    (go : ∀ T', Wk p l e R s m args below meth c Z a0 EL own sf T' h k n → Go p e below s Z EL rc rs Q (T'.setTop (mkF m (pc + 3) Ls (.int 1 :: rest)))) : Go p e below s Z EL rc rs Q (T.setTop (mkF m pc Ls (.ref a :: rest))) := by
  obtain ⟨w1, w2, w3, w4, vm0, k0, L, X, r1, r2, r3, r4, r5, r⟩ := W
  obtain ⟨T', X', e', st⟩ := Jvm.RoadKit.instY X w1 r4 r5 w r1 F (g := mkF m pc Ls (.ref a :: rest)) rfl rfl hd
  exact Go.by st (go T' ⟨w1, w2, w3, w4, vm0, k0, L, X', e', r2, r3, r4, r5, r⟩)
theorem Wk.instNo {index : Nat} {K C : String} (W : Wk p l e R s m args below meth c Z a0 EL own sf T h k n) (w : (Cond.classLink own index K).before a0 Z = true) (E : Exa Z h a C) (F : ∃ c t, Z.vm.findClass C = some c ∧ Z.vm.findClass K = some t ∧ Z.vm.assignable c t = false) (hd : decode c.code pc = .ok (.instanceof index, 3))
    (go : ∀ T', Wk p l e R s m args below meth c Z a0 EL own sf T' h k n → Go p e below s Z EL rc rs Q (T'.setTop (mkF m (pc + 3) Ls (.int 0 :: rest)))) : Go p e below s Z EL rc rs Q (T.setTop (mkF m pc Ls (.ref a :: rest))) := by
  obtain ⟨w1, w2, w3, w4, vm0, k0, L, X, r1, r2, r3, r4, r5, r⟩ := W
  obtain ⟨T', X', e', st⟩ := Jvm.RoadKit.instNo X w1 r4 r5 w r1 E F (g := mkF m pc Ls (.ref a :: rest)) rfl rfl hd
  exact Go.by st (go T' ⟨w1, w2, w3, w4, vm0, k0, L, X', e', r2, r3, r4, r5, r⟩)
theorem Wk.instNull {index : Nat} (W : Wk p l e R s m args below meth c Z a0 EL own sf T h k n) (hd : decode c.code pc = .ok (.instanceof index, 3)) (go : Go p e below s Z EL rc rs Q (T.setTop (mkF m (pc + 3) Ls (.int 0 :: rest)))) : Go p e below s Z EL rc rs Q (T.setTop (mkF m pc Ls (.null :: rest))) := by
  obtain ⟨w1, w2, w3, w4, vm0, k0, L, X, r⟩ := W
  exact Go.by (X.instanceofNull w1 (g := mkF m pc Ls (.null :: rest)) rfl rfl hd) go
theorem Wk.castNull {index : Nat} (W : Wk p l e R s m args below meth c Z a0 EL own sf T h k n) (hd : decode c.code pc = .ok (.checkcast index, 3)) (go : Go p e below s Z EL rc rs Q (T.setTop (mkF m (pc + 3) Ls (.null :: rest)))) : Go p e below s Z EL rc rs Q (T.setTop (mkF m pc Ls (.null :: rest))) := by
  obtain ⟨w1, w2, w3, w4, vm0, k0, L, X, r⟩ := W
  exact Go.by (X.checkcastNull w1 (g := mkF m pc Ls (.null :: rest)) rfl rfl hd) go
/-! arrays -/
theorem Wk.alen {kA : ClassId} {ty : FieldType} {z : Int32} {vs : List Value} {dv : Value} (W : Wk p l e R s m args below meth c Z a0 EL own sf T h k n) (A : Arv Z h a kA ty z vs dv) (hd : decode c.code pc = .ok (.arraylength, 1)) (go : Go p e below s Z EL rc rs Q (T.setTop (mkF m (pc + 1) Ls (.int z :: rest)))) : Go p e below s Z EL rc rs Q (T.setTop (mkF m pc Ls (.ref a :: rest))) := by
  obtain ⟨w1, w2, w3, w4, vm0, k0, L, X, rfl, r2, r3, r4, r⟩ := W
  obtain ⟨cl, A1, -, S, N, -, -⟩ := A
  refine Go.by (X.arraylength w1 A1.1 (State.isArrayOf_alike (T := s.setVm vm0) r4.alike A1.2.1) (g := mkF m pc Ls (.ref a :: rest)) rfl rfl hd) ?_
  rw [len_of S N]; exact go
theorem inA {kA : ClassId} {ty : FieldType} {z j : Int32} {vs : List Value} {dv v : Value} (A : Arv Z h a kA ty z vs dv) (hj : ¬ j < 0 ∧ j < z) (hv : vs.getD j.toNatClampNeg dv = v) : ∃ cl : Cell, RoadKit.Arr Z h a cl ty ∧ ¬ (j < 0 ∨ cl.slots.size ≤ j.toNatClampNeg) ∧ cl.slots[j.toNatClampNeg]? = some v ∧ fits ty v = true := by
  obtain ⟨cl, A1, -, S, N, H, G⟩ := A
  have hi := inb_of S hj
  exact ⟨cl, A1, hi, H.at hi hv, hv ▸ G _ (Nat.lt_of_not_le fun y => hi (Or.inr y))⟩
theorem Wk.cald {kA : ClassId} {z j : Int32} {vs : List Value} {dv v : Value} (W : Wk p l e R s m args below meth c Z a0 EL own sf T h k n) (A : Arv Z h a kA .char z vs dv) (hj : ¬ j < 0 ∧ j < z) (hv : vs.getD j.toNatClampNeg dv = v) (hd : decode c.code pc = .ok (.caload, 1)) (go : Go p e below s Z EL rc rs Q (T.setTop (mkF m (pc + 1) Ls (v :: rest)))) : Go p e below s Z EL rc rs Q (T.setTop (mkF m pc Ls (.int j :: .ref a :: rest))) := by
  obtain ⟨w1, w2, w3, w4, vm0, k0, L, X, rfl, r2, r3, r4, r⟩ := W
  obtain ⟨cl, A1, hi, hat, -⟩ := inA A hj hv
  exact Go.by (X.caload w1 (j := j) (v := v) A1.1 (State.isArrayOf_alike (T := s.setVm vm0) r4.alike A1.2.1) A1.2.2 hi hat (g := mkF m pc Ls (.int j :: .ref a :: rest)) rfl rfl hd) go
theorem Wk.bald {kA : ClassId} {z j : Int32} {vs : List Value} {dv v : Value} (W : Wk p l e R s m args below meth c Z a0 EL own sf T h k n) (A : Arv Z h a kA .byte z vs dv) (hj : ¬ j < 0 ∧ j < z) (hv : vs.getD j.toNatClampNeg dv = v) (hd : decode c.code pc = .ok (.baload, 1)) (go : Go p e below s Z EL rc rs Q (T.setTop (mkF m (pc + 1) Ls (v :: rest)))) : Go p e below s Z EL rc rs Q (T.setTop (mkF m pc Ls (.int j :: .ref a :: rest))) := by
  obtain ⟨w1, w2, w3, w4, vm0, k0, L, X, rfl, r2, r3, r4, r⟩ := W
  obtain ⟨cl, A1, hi, hat, -⟩ := inA A hj hv
  exact Go.by (X.baloadBytes w1 (j := j) (v := v) A1.1 (State.isArrayOf_alike (T := s.setVm vm0) r4.alike A1.2.1) A1.2.2 hi hat (g := mkF m pc Ls (.int j :: .ref a :: rest)) rfl rfl hd) go
theorem Wk.aald {kA : ClassId} {ty : FieldType} {z j : Int32} {vs : List Value} {dv v : Value} (W : Wk p l e R s m args below meth c Z a0 EL own sf T h k n) (A : Arv Z h a kA ty z vs dv) (hty : ty.isReference = true) (hj : ¬ j < 0 ∧ j < z) (hv : vs.getD j.toNatClampNeg dv = v) (hd : decode c.code pc = .ok (.aaload, 1)) (go : Go p e below s Z EL rc rs Q (T.setTop (mkF m (pc + 1) Ls (v :: rest)))) : Go p e below s Z EL rc rs Q (T.setTop (mkF m pc Ls (.int j :: .ref a :: rest))) := by
  obtain ⟨w1, w2, w3, w4, vm0, k0, L, X, rfl, r2, r3, r4, r⟩ := W
  obtain ⟨cl, A1, hi, hat, -⟩ := inA A hj hv
  exact Go.by (X.aaload w1 (j := j) (v := v) A1.1 (State.isArrayOf_alike (T := s.setVm vm0) r4.alike A1.2.1) hty A1.2.2 hi hat (g := mkF m pc Ls (.int j :: .ref a :: rest)) rfl rfl hd) go
theorem Wk.cast_ {kA : ClassId} {z j v v' : Int32} {vs : List Value} {dv : Value} {i : Nat} (W : Wk p l e R s m args below meth c Z a0 EL own sf T h k n) (A : Arv Z h a kA .char z vs dv) (hj : ¬ j < 0 ∧ j < z) (hi : j.toNatClampNeg = i) (hlt : i < vs.length) (hv : nar .char v = v') (ha : Z.heap.size ≤ a) (hs : a ∈ sf) (hd : decode c.code pc = .ok (.castore, 1))
    (go : ∀ T' h', Wk p l e R s m args below meth c Z a0 EL own sf T' h' k n → Wr h h' a j.toNatClampNeg (.int v') → Arv Z h' a kA .char z (vs.set i (.int v')) dv → Go p e below s Z EL rc rs Q (T'.setTop (mkF m (pc + 1) Ls rest))) : Go p e below s Z EL rc rs Q (T.setTop (mkF m pc Ls (.int v :: .int j :: .ref a :: rest))) := by
  subst hv
  obtain ⟨w1, w2, w3, w4, vm0, k0, L, X, r1, r2, r3, r4, r5, r6, r7, r8⟩ := W
  obtain ⟨cl, A1, A2, S, N, H, G⟩ := A
  obtain ⟨T', h', X', e', W', st⟩ := stC X w1 r4 r1 A1 (j := j) (inb_of S hj) (g := mkF m pc Ls (.int v :: .int j :: .ref a :: rest)) rfl rfl hd
  exact Go.by st (go T' h' (Wk.wrote w1 w2 w3 w4 X' e' W' r2 r3 r4 r5 r6 r7 r8 ha hs) W' (Arv.set A1 A2 S N H G (fits_nar_char _) W' i hi hlt))
theorem Wk.bast {kA : ClassId} {z j v v' : Int32} {vs : List Value} {dv : Value} {i : Nat} (W : Wk p l e R s m args below meth c Z a0 EL own sf T h k n) (A : Arv Z h a kA .byte z vs dv) (hj : ¬ j < 0 ∧ j < z) (hi : j.toNatClampNeg = i) (hlt : i < vs.length) (hv : nar .byte v = v') (ha : Z.heap.size ≤ a) (hs : a ∈ sf) (hd : decode c.code pc = .ok (.bastore, 1))
    (go : ∀ T' h', Wk p l e R s m args below meth c Z a0 EL own sf T' h' k n → Wr h h' a j.toNatClampNeg (.int v') → Arv Z h' a kA .byte z (vs.set i (.int v')) dv → Go p e below s Z EL rc rs Q (T'.setTop (mkF m (pc + 1) Ls rest))) : Go p e below s Z EL rc rs Q (T.setTop (mkF m pc Ls (.int v :: .int j :: .ref a :: rest))) := by
  subst hv
  obtain ⟨w1, w2, w3, w4, vm0, k0, L, X, r1, r2, r3, r4, r5, r6, r7, r8⟩ := W
  obtain ⟨cl, A1, A2, S, N, H, G⟩ := A
  obtain ⟨T', h', X', e', W', st⟩ := stB X w1 r4 r1 A1 (j := j) (inb_of S hj) (g := mkF m pc Ls (.int v :: .int j :: .ref a :: rest)) rfl rfl hd
  exact Go.by st (go T' h' (Wk.wrote w1 w2 w3 w4 X' e' W' r2 r3 r4 r5 r6 r7 r8 ha hs) W' (Arv.set A1 A2 S N H G (fits_nar_byte _) W' i hi hlt))
theorem Wk.aast {kA : ClassId} {ty : FieldType} {z j : Int32} {v : Value} {vs : List Value} {dv : Value} {i : Nat} (W : Wk p l e R s m args below meth c Z a0 EL own sf T h k n) (A : Arv Z h a kA ty z vs dv) (hty : ty.isReference = true) (hj : ¬ j < 0 ∧ j < z) (hi : j.toNatClampNeg = i) (hlt : i < vs.length) (F : Sto Z h a v) (hv : fits ty v = true) (ha : Z.heap.size ≤ a) (hs : a ∈ sf) (hd : decode c.code pc = .ok (.aastore, 1))
    (go : ∀ T' h', Wk p l e R s m args below meth c Z a0 EL own sf T' h' k n → Wr h h' a j.toNatClampNeg v → Arv Z h' a kA ty z (vs.set i v) dv → Go p e below s Z EL rc rs Q (T'.setTop (mkF m (pc + 1) Ls rest))) : Go p e below s Z EL rc rs Q (T.setTop (mkF m pc Ls (v :: .int j :: .ref a :: rest))) := by
  obtain ⟨w1, w2, w3, w4, vm0, k0, L, X, r1, r2, r3, r4, r5, r6, r7, r8⟩ := W
  obtain ⟨cl, A1, A2, S, N, H, G⟩ := A
  obtain ⟨T', h', X', e', W', st⟩ := stR X w1 r4 r1 A1 (j := j) (inb_of S hj) hty F (g := mkF m pc Ls (v :: .int j :: .ref a :: rest)) rfl rfl hd
  exact Go.by st (go T' h' (Wk.wrote w1 w2 w3 w4 X' e' W' r2 r3 r4 r5 r6 r7 r8 ha hs) W' (Arv.set A1 A2 S N H G hv W' i hi hlt))
/-- a String at the start, by the sheet's words -/
theorem str_of {t : Term} (hf : Fit Z) (hx : (Cond.exactly t "java/lang/String").value args Z none Z [] = some true) (hcd : (Cond.eq (.field t "java/lang/String" "coder" "B") (.int 0)).value args Z none Z [] = some true) (hA : (Cond.arrayOf (.field t "java/lang/String" "value" "[B") .byte).value args Z none Z [] = some true) (hl : (Cond.eq (.length (.field t "java/lang/String" "value" "[B")) (.int (Int32.ofNat cs.length))).value args Z none Z [] = some true) (hn : cs.length < 2 ^ 31) (H : HasE args Z (.field t "java/lang/String" "value" "[B") 0 (cs.map fun c => Value.int (StrChars.lo8 c))) (hb : ∀ c ∈ cs, ¬ c < 0 ∧ ¬ (255 : Int32) < c ∧ ¬ (65535 : Int32) < c) : ∃ a, t.eval args Z none [] Z = some (.ref a) ∧ Str Z Z.heap a cs := by
  obtain ⟨a, ea⟩ := exa_v hx
  obtain ⟨b, eb⟩ := arr_v hA
  have ec := Cond.eq_int (Cond.before_iff.mpr hcd) rfl
  have el := Cond.eq_int (Cond.before_iff.mpr hl) rfl
  obtain ⟨kb, K⟩ := arv_of (dv := .int 0) hf eb hA el (by
    intro q
    rw [Int32.lt_iff_toInt_lt, Int32.toInt_ofNat_small hn] at q
    have e0 : (0 : Int32).toInt = 0 := rfl
    omega) (by rw [clampN hn, List.length_map]) (by rw [List.length_map]; exact hn) H
  exact ⟨a, ea, b, kb, 0, _, _, Exa.start ea hx, Fld.start (by rw [← fld_at ea]; exact eb), Fld.start (by rw [← fld_at ea]; exact ec), K, Or.inl ⟨rfl, rfl, rfl, fun c hc => (hb c hc).2.1⟩, fun c hc => ⟨(hb c hc).1, (hb c hc).2.2⟩⟩
end KitStr
section KitStrLen
variable {p : Program} {l : Launch} {e : Env} {R : Room} {s : State} {m : MethodId} {args : Array Value} {below : List Frame} {meth : Method} {c : Code} {Z : State} {a0 : Array Value} {EL : List (String × Nat)} {own : String} {sf : List Addr} {T : State} {h h' h0 : Heap} {k n k' n' rc rs pc : Nat} {Ls : Array Slot} {stk rest : List Value} {Q : Option Value → Heap → Prop} {a x y : Addr} {cs ds : List Int32}
theorem pdLen : parseMethodDescriptor "()I" = some ⟨[], some .int⟩ := by decide +kernel
/-- s.length() -/
theorem Wk.strLen {index Wt : Nat} {z : Int32} (W : Wk p l e R s m args below meth c Z a0 EL own sf T h k n) (hws : ∀ d ∈ StrChars.Road.wordsLen, d.before a0 Z = true) (wi : (Cond.instantiable "java/lang/String" 4).before a0 Z = true) (w1 : (Cond.methodLink own index ⟨"java/lang/String", "length", "()I"⟩).before a0 Z = true) (w2 : (Cond.declares ⟨"java/lang/String", "length", "()I"⟩).before a0 Z = true) (w3 : (Cond.selects "java/lang/String" ⟨"java/lang/String", "length", "()I"⟩ ⟨"java/lang/String", "length", "()I"⟩).before a0 Z = true) (w4 : (Cond.instanceMethod ⟨"java/lang/String", "length", "()I"⟩).before a0 Z = true)
    (S1 : Str Z h x cs) (l1 : cs.length ≤ 4000) (S : Sta Z h "java/lang/String" "COMPACT_STRINGS" "Z" (.int z)) (hz : ¬ z = 0) (hf : 2 ≤ R.frames) (hl : Wt + 25 ≤ R.locals) (hsz : Ls.size = c.maxLocals) (hW : (rest.map fun v => v.category).sum ≤ Wt) (hk : k ≤ R.cells) (hn : n ≤ R.slots) (hd : decode c.code pc = .ok (.invokevirtual index, 3))
    (go : ∀ T', Wk p l e R s m args below meth c Z a0 EL own sf T' h k n → Go p e below s Z EL rc rs Q (T'.setTop (mkF m (pc + 3) Ls (.int (Int32.ofNat cs.length) :: rest)))) : Go p e below s Z EL rc rs Q (T.setTop (mkF m pc Ls (.ref x :: rest))) := by
  obtain ⟨u1, u2, u3, u4, vm0, k0, L, X, rfl, r2, r3, r4, r5, r6, r7, r8⟩ := W
  obtain ⟨t, kb, cd, N2, vs, s1, s2, s3, s4, s5, s6⟩ := S1
  obtain ⟨cq, kq, qa, qb, qc⟩ := isOf (s := s.setVm vm0) (T := T) r4 rfl s1
  obtain ⟨v, vm₁, ⟨T', L', k1, n1⟩, -, X', ⟨Lc, hQ, l', y', z'⟩, st⟩ := X.virtualBack u1 (y := (⟨"java/lang/String", "length", "()I"⟩ : MethodName)) (z := (⟨"java/lang/String", "length", "()I"⟩ : MethodName)) r5 (mvT (s := s.setVm vm0) r4 w1) (mvT (s := s.setVm vm0) r4 w2) (notFace_of_selects (args := #[]) (mvT (s := s.setVm vm0) r4 w3)) (mvT (s := s.setVm vm0) r4 w3) (mvT (s := s.setVm vm0) r4 w4) (by decide)
    (StrChars.Road.lenW (W := Wt) (s := s.setVm vm0) r4 hws wi s1 s2 s3 s4 s5 s6 S hz l1 hf hl) qa qc (g := mkF m pc Ls (.ref x :: rest)) rfl hsz (Steps.refl _) (argsL := []) (rest := rest) (lenOf pdLen rfl) rfl (by show 2 * 0 + _ ≤ _; omega) hd (fun _ _ => ⟨rfl, rfl, hk, hn⟩)
  dsimp only [Pt.U, Pt.locs, Pt.cells, Pt.slots] at X' l' y' z' st hQ
  subst l' y' z'
  obtain ⟨rfl, rfl, e'⟩ := hQ
  rw [List.append_nil] at X'
  exact Go.of st (go T' ⟨u1, u2, u3, u4, vm0, k0, L, X', e', r2, r3, r4, r5, r6, r7, r8⟩)
end KitStrLen
section KitStrCh
variable {p : Program} {l : Launch} {e : Env} {R : Room} {s : State} {m : MethodId} {args : Array Value} {below : List Frame} {meth : Method} {c : Code} {Z : State} {a0 : Array Value} {EL : List (String × Nat)} {own : String} {sf : List Addr} {T : State} {h h' h0 : Heap} {k n k' n' rc rs pc : Nat} {Ls : Array Slot} {stk rest : List Value} {Q : Option Value → Heap → Prop} {a x y : Addr} {cs ds : List Int32}
theorem pdCh : parseMethodDescriptor "(I)C" = some ⟨[.int], some .char⟩ := by decide +kernel
/-- s.charAt(i) of a String of chars below 256 -/
theorem Wk.strCh {index Wt i : Nat} {z j : Int32} {fm : Value} (W : Wk p l e R s m args below meth c Z a0 EL own sf T h k n) (hws : ∀ d ∈ StrChars.Road.wordsChN, d.before a0 Z = true) (wi : (Cond.instantiable "java/lang/String" 4).before a0 Z = true) (w1 : (Cond.methodLink own index ⟨"java/lang/String", "charAt", "(I)C"⟩).before a0 Z = true) (w2 : (Cond.declares ⟨"java/lang/String", "charAt", "(I)C"⟩).before a0 Z = true) (w3 : (Cond.selects "java/lang/String" ⟨"java/lang/String", "charAt", "(I)C"⟩ ⟨"java/lang/String", "charAt", "(I)C"⟩).before a0 Z = true) (w4 : (Cond.instanceMethod ⟨"java/lang/String", "charAt", "(I)C"⟩).before a0 Z = true)
    (S1 : Str Z h x cs) (hlat : ∀ c ∈ cs, ¬ (255 : Int32) < c) (l1 : cs.length ≤ 4000) (S : Sta Z h "java/lang/String" "COMPACT_STRINGS" "Z" (.int z)) (hz : ¬ z = 0) (F : Sta Z h "jdk/internal/util/Preconditions" "SIOOBE_FORMATTER" "Ljava/util/function/BiFunction;" fm) (rf : fm.isRef = true) (hi : i < cs.length) (hj : j = Int32.ofNat i) (hf : 4 ≤ R.frames) (hl : Wt + 53 ≤ R.locals) (hsz : Ls.size = c.maxLocals) (hW : (rest.map fun v => v.category).sum ≤ Wt) (hk : k ≤ R.cells) (hn : n ≤ R.slots) (hd : decode c.code pc = .ok (.invokevirtual index, 3))
    (go : ∀ T', Wk p l e R s m args below meth c Z a0 EL own sf T' h k n → Go p e below s Z EL rc rs Q (T'.setTop (mkF m (pc + 3) Ls (.int (cs.getD i 0) :: rest)))) : Go p e below s Z EL rc rs Q (T.setTop (mkF m pc Ls (.int j :: .ref x :: rest))) := by
  obtain ⟨u1, u2, u3, u4, vm0, k0, L, X, rfl, r2, r3, r4, r5, r6, r7, r8⟩ := W
  obtain ⟨t, kb, cd, N2, vs, s1, s2, s3, s4, s5, s6⟩ := S1
  obtain rfl : cd = 0 := by
    rcases s5 with ⟨q, -⟩ | ⟨-, -, -, c, hc, q⟩
    · exact q
    · exact absurd q (hlat c hc)
  obtain ⟨cq, kq, qa, qb, qc⟩ := isOf (s := s.setVm vm0) (T := T) r4 rfl s1
  obtain ⟨v, vm₁, ⟨T', L', k1, n1⟩, -, X', ⟨Lc, hQ, l', y', z'⟩, st⟩ := X.virtualBack u1 (y := (⟨"java/lang/String", "charAt", "(I)C"⟩ : MethodName)) (z := (⟨"java/lang/String", "charAt", "(I)C"⟩ : MethodName)) r5 (mvT (s := s.setVm vm0) r4 w1) (mvT (s := s.setVm vm0) r4 w2) (notFace_of_selects (args := #[]) (mvT (s := s.setVm vm0) r4 w3)) (mvT (s := s.setVm vm0) r4 w3) (mvT (s := s.setVm vm0) r4 w4) (by decide)
    (StrChars.Road.chN (W := Wt) (s := s.setVm vm0) r4 hws wi s1 s2 s3 s4 s5 s6 S hz F rf l1 hi hj hf hl) qa qc (g := mkF m pc Ls (.int j :: .ref x :: rest)) rfl hsz (Steps.refl _) (argsL := [.int j]) (rest := rest) (lenOf pdCh rfl) rfl (by show 2 * 0 + _ ≤ _; omega) hd (fun _ _ => ⟨rfl, rfl, hk, hn⟩)
  dsimp only [Pt.U, Pt.locs, Pt.cells, Pt.slots] at X' l' y' z' st hQ
  subst l' y' z'
  obtain ⟨rfl, rfl, e'⟩ := hQ
  rw [List.append_nil] at X'
  exact Go.of st (go T' ⟨u1, u2, u3, u4, vm0, k0, L, X', e', r2, r3, r4, r5, r6, r7, r8⟩)
end KitStrCh
theorem nar_i2c (x : Int32) : nar .char x.toUInt32.toUInt16.toUInt32.toInt32 = x.toUInt32.toUInt16.toUInt32.toInt32 := by
  have h1 := c_i2c x
  have h2 := c_i2c x.toUInt32.toUInt16.toUInt32.toInt32
  apply Int32.toInt_inj.mp
  show (x.toUInt32.toUInt16.toUInt32.toInt32.toUInt32.toUInt16.toUInt32.toInt32).toInt = _
  omega
theorem i2c_id {x : Int32} (h : ¬ x < 0 ∧ ¬ (65535 : Int32) < x) : x.toUInt32.toUInt16.toUInt32.toInt32 = x := by
  have h1 := c_i2c x
  apply Int32.toInt_inj.mp
  rw [Int32.lt_iff_toInt_lt, Int32.lt_iff_toInt_lt] at h
  have e : (65535 : Int32).toInt = 65535 := rfl
  have e0 : (0 : Int32).toInt = 0 := rfl
  omega
theorem nar_id {x : Int32} (h : ¬ x < 0 ∧ ¬ (65535 : Int32) < x) : nar .char x = x := i2c_id h
theorem up16 {x : Int32} (h : ¬ x < 0 ∧ ¬ (255 : Int32) < x) : ¬ x < 0 ∧ ¬ (65535 : Int32) < x := ⟨h.1, fun q => h.2 (by rw [Int32.lt_iff_toInt_lt] at q ⊢; have e1 : (65535 : Int32).toInt = 65535 := rfl; have e2 : (255 : Int32).toInt = 255 := rfl; omega)⟩
theorem i2c_rng (x : Int32) : ¬ x.toUInt32.toUInt16.toUInt32.toInt32 < 0 ∧ ¬ (65535 : Int32) < x.toUInt32.toUInt16.toUInt32.toInt32 := by
  have h1 := c_i2c x
  rw [Int32.lt_iff_toInt_lt, Int32.lt_iff_toInt_lt]
  have e : (65535 : Int32).toInt = 65535 := rfl
  have e0 : (0 : Int32).toInt = 0 := rfl
  omega
theorem and255 (x : Int32) : ¬ (x &&& (255 : Int32)) < 0 ∧ ¬ (255 : Int32) < (x &&& (255 : Int32)) := by
  have h := c_and x 255 (by decide)
  have e : (255 : Int32).toInt = 255 := rfl
  rw [Int32.lt_iff_toInt_lt, Int32.lt_iff_toInt_lt, e]
  have e0 : (0 : Int32).toInt = 0 := rfl
  omega
theorem k_mask (x : Int32) : ¬ (x &&& (255 : Int32)).toUInt32.toUInt16.toUInt32.toInt32 < 0 ∧ ¬ (255 : Int32) < (x &&& (255 : Int32)).toUInt32.toUInt16.toUInt32.toInt32 := by
  rw [i2c_mask]; exact and255 x
theorem k_nar (x : Int32) : nar .char (x &&& (255 : Int32)).toUInt32.toUInt16.toUInt32.toInt32 = (x &&& (255 : Int32)).toUInt32.toUInt16.toUInt32.toInt32 := nar_i2c _
theorem and3 (x : Int32) : x &&& (3 : Int32) = 0 ∨ x &&& (3 : Int32) = 1 ∨ x &&& (3 : Int32) = 2 ∨ x &&& (3 : Int32) = 3 := by
  have h := c_and x 3 (by decide)
  have e : (3 : Int32).toInt = 3 := rfl
  rcases (by omega : (x &&& (3 : Int32)).toInt = 0 ∨ (x &&& (3 : Int32)).toInt = 1 ∨ (x &&& (3 : Int32)).toInt = 2 ∨ (x &&& (3 : Int32)).toInt = 3) with q | q | q | q
  · exact Or.inl (Int32.toInt_inj.mp q)
  · exact Or.inr (Or.inl (Int32.toInt_inj.mp q))
  · exact Or.inr (Or.inr (Or.inl (Int32.toInt_inj.mp q)))
  · exact Or.inr (Or.inr (Or.inr (Int32.toInt_inj.mp q)))
theorem maskL255 (x : Int64) : ¬ (x &&& (255 : Int64)).toInt32.toUInt32.toUInt16.toUInt32.toInt32 < 0 ∧ ¬ (255 : Int32) < (x &&& (255 : Int64)).toInt32.toUInt32.toUInt16.toUInt32.toInt32 := by
  have h := c_maskL x 255 8 (by decide) (by decide)
  have h2 := c_l2i (x &&& (255 : Int64))
  have h3 := c_i2c (x &&& (255 : Int64)).toInt32
  have h4 := rng32 (x &&& (255 : Int64)).toInt32
  rw [Int32.lt_iff_toInt_lt, Int32.lt_iff_toInt_lt]
  have e : (255 : Int32).toInt = 255 := rfl
  have e0 : (0 : Int32).toInt = 0 := rfl
  have e8 : ((2 ^ 8 : Nat) : Int) = 256 := rfl
  omega
theorem k_sa {Z : State} {a0 : Array Value} (hw : ∀ d ∈ tables_1, d.before a0 Z = true) : ∀ a ∈ Bundle.stringAtoms, a.before a0 Z = true := fun d hd => hw d ((by decide +kernel : ∀ d ∈ Bundle.stringAtoms, d ∈ tables_1) d hd)
theorem k_words {Z : State} {a0 : Array Value} (hw : ∀ d ∈ tables_1, d.before a0 Z = true) : ∀ d ∈ StrChars.Road.words, d.before a0 Z = true := fun d hd => hw d ((by decide +kernel : ∀ d ∈ StrChars.Road.words, d ∈ tables_1) d hd)
theorem k_len {Z : State} {a0 : Array Value} (hw : ∀ d ∈ tables_1, d.before a0 Z = true) : ∀ d ∈ StrChars.Road.wordsLen, d.before a0 Z = true := fun d hd => hw d ((by decide +kernel : ∀ d ∈ StrChars.Road.wordsLen, d ∈ tables_1) d hd)
theorem k_ch {Z : State} {a0 : Array Value} (hw : ∀ d ∈ tables_1, d.before a0 Z = true) : ∀ d ∈ StrChars.Road.wordsChN, d.before a0 Z = true := fun d hd => hw d ((by decide +kernel : ∀ d ∈ StrChars.Road.wordsChN, d ∈ tables_1) d hd)
theorem sta_exa {args : Array Value} {Z : State} {C n d K : String} (hx : (Cond.exactly (.static C n d) K).value args Z none Z [] = some true) (hi : (Cond.initializedFor C n d).before args Z = true ∨ ((Cond.initialized C).before args Z = true ∧ (Cond.laysStatic C n d).before args Z = true)) : ∃ a, Sta Z Z.heap C n d (.ref a) ∧ Exa Z Z.heap a K ∧ (Term.static C n d).eval args Z none [] Z = some (.ref a) := by
  obtain ⟨a, c', cell, k, e1, -⟩ := Cond.exactly_spec (Cond.before_iff.mpr hx)
  exact ⟨a, Sta.start e1 hi, Exa.start e1 hx, e1⟩
theorem lo8_lo8 (z : Int32) : z.toInt8.toInt32.toInt8.toInt32 = z.toInt8.toInt32 := by simp
theorem wd0 {Z : State} {a0 : Array Value} (hw : ∀ d ∈ tables_1, d.before a0 Z = true) : (Jvm.Cond.arrayClass Jvm.ClassFile.FieldType.char).before a0 Z = true := hw _ (List.mem_of_getElem? (i := 0) rfl)
theorem wd1 {Z : State} {a0 : Array Value} (hw : ∀ d ∈ tables_1, d.before a0 Z = true) : (Jvm.Cond.classLink "com/example/admit/admit/model/AclEntryRequirePrivilegeNamePinLaw" (7 : Nat) "java/lang/String").before a0 Z = true := hw _ (List.mem_of_getElem? (i := 1) rfl)
theorem wd2 {Z : State} {a0 : Array Value} (hw : ∀ d ∈ tables_1, d.before a0 Z = true) : (Jvm.Cond.instantiable "java/lang/String" (4 : Nat)).before a0 Z = true := hw _ (List.mem_of_getElem? (i := 2) rfl)
theorem wd3 {Z : State} {a0 : Array Value} (hw : ∀ d ∈ tables_1, d.before a0 Z = true) : (Jvm.Cond.initialized "java/lang/String").before a0 Z = true := hw _ (List.mem_of_getElem? (i := 3) rfl)
theorem wd4 {Z : State} {a0 : Array Value} (hw : ∀ d ∈ tables_1, d.before a0 Z = true) : (Jvm.Cond.methodLink "com/example/admit/admit/model/AclEntryRequirePrivilegeNamePinLaw" (9 : Nat) ({ cls := "java/lang/String", name := "<init>", desc := "([C)V" } : Jvm.MethodName)).before a0 Z = true := hw _ (List.mem_of_getElem? (i := 4) rfl)
theorem wd5 {Z : State} {a0 : Array Value} (hw : ∀ d ∈ tables_1, d.before a0 Z = true) : (Jvm.Cond.instanceMethod ({ cls := "java/lang/String", name := "<init>", desc := "([C)V" } : Jvm.MethodName)).before a0 Z = true := hw _ (List.mem_of_getElem? (i := 5) rfl)
theorem wd6 {Z : State} {a0 : Array Value} (hw : ∀ d ∈ tables_1, d.before a0 Z = true) : (Jvm.Cond.code ({ cls := "java/lang/String", name := "<init>", desc := "([C)V" } : Jvm.MethodName) jdk_42_method_3_code (2 : Nat) (Option.none : Option Jvm.ClassFile.FieldType)).before a0 Z = true := hw _ (List.mem_of_getElem? (i := 6) rfl)
theorem wd7 {Z : State} {a0 : Array Value} (hw : ∀ d ∈ tables_1, d.before a0 Z = true) : (Jvm.Cond.methodLink "java/lang/String" (27 : Nat) ({ cls := "java/lang/String", name := "<init>", desc := "([CIILjava/lang/Void;)V" } : Jvm.MethodName)).before a0 Z = true := hw _ (List.mem_of_getElem? (i := 7) rfl)
theorem wd8 {Z : State} {a0 : Array Value} (hw : ∀ d ∈ tables_1, d.before a0 Z = true) : (Jvm.Cond.instanceMethod ({ cls := "java/lang/String", name := "<init>", desc := "([CIILjava/lang/Void;)V" } : Jvm.MethodName)).before a0 Z = true := hw _ (List.mem_of_getElem? (i := 8) rfl)
theorem wd10 {Z : State} {a0 : Array Value} (hw : ∀ d ∈ tables_1, d.before a0 Z = true) : (Jvm.Cond.code ({ cls := "java/lang/String", name := "<init>", desc := "([CIILjava/lang/Void;)V" } : Jvm.MethodName) jdk_42_method_149_code (6 : Nat) (Option.none : Option Jvm.ClassFile.FieldType)).before a0 Z = true := hw _ (List.mem_of_getElem? (i := 10) rfl)
theorem wd11 {Z : State} {a0 : Array Value} (hw : ∀ d ∈ tables_1, d.before a0 Z = true) : (Jvm.Cond.methodLink "java/lang/String" (1 : Nat) ({ cls := "java/lang/Object", name := "<init>", desc := "()V" } : Jvm.MethodName)).before a0 Z = true := hw _ (List.mem_of_getElem? (i := 11) rfl)
theorem wd12 {Z : State} {a0 : Array Value} (hw : ∀ d ∈ tables_1, d.before a0 Z = true) : (Jvm.Cond.instanceMethod ({ cls := "java/lang/Object", name := "<init>", desc := "()V" } : Jvm.MethodName)).before a0 Z = true := hw _ (List.mem_of_getElem? (i := 12) rfl)
theorem wd13 {Z : State} {a0 : Array Value} (hw : ∀ d ∈ tables_1, d.before a0 Z = true) : (Jvm.Cond.code ({ cls := "java/lang/Object", name := "<init>", desc := "()V" } : Jvm.MethodName) object_method_1_code (1 : Nat) (Option.none : Option Jvm.ClassFile.FieldType)).before a0 Z = true := hw _ (List.mem_of_getElem? (i := 13) rfl)
theorem wd14 {Z : State} {a0 : Array Value} (hw : ∀ d ∈ tables_1, d.before a0 Z = true) : (Jvm.Cond.fieldLink "java/lang/String" (38 : Nat) "java/lang/String" "COMPACT_STRINGS" "Z").before a0 Z = true := hw _ (List.mem_of_getElem? (i := 14) rfl)
theorem wd15 {Z : State} {a0 : Array Value} (hw : ∀ d ∈ tables_1, d.before a0 Z = true) : (Jvm.Cond.methodLink "java/lang/String" (177 : Nat) ({ cls := "java/lang/StringUTF16", name := "compress", desc := "([CII)[B" } : Jvm.MethodName)).before a0 Z = true := hw _ (List.mem_of_getElem? (i := 15) rfl)
theorem wd16 {Z : State} {a0 : Array Value} (hw : ∀ d ∈ tables_1, d.before a0 Z = true) : (Jvm.Cond.static ({ cls := "java/lang/StringUTF16", name := "compress", desc := "([CII)[B" } : Jvm.MethodName)).before a0 Z = true := hw _ (List.mem_of_getElem? (i := 16) rfl)
theorem wd17 {Z : State} {a0 : Array Value} (hw : ∀ d ∈ tables_1, d.before a0 Z = true) : (Jvm.Cond.initialized "java/lang/StringUTF16").before a0 Z = true := hw _ (List.mem_of_getElem? (i := 17) rfl)
theorem wd18 {Z : State} {a0 : Array Value} (hw : ∀ d ∈ tables_1, d.before a0 Z = true) : (Jvm.Cond.code ({ cls := "java/lang/StringUTF16", name := "compress", desc := "([CII)[B" } : Jvm.MethodName) jdk_52_method_16_code (6 : Nat) (Option.some (Jvm.ClassFile.FieldType.array Jvm.ClassFile.FieldType.byte))).before a0 Z = true := hw _ (List.mem_of_getElem? (i := 18) rfl)
theorem wd19 {Z : State} {a0 : Array Value} (hw : ∀ d ∈ tables_1, d.before a0 Z = true) : (Jvm.Cond.arrayClass Jvm.ClassFile.FieldType.byte).before a0 Z = true := hw _ (List.mem_of_getElem? (i := 19) rfl)
theorem wd20 {Z : State} {a0 : Array Value} (hw : ∀ d ∈ tables_1, d.before a0 Z = true) : (Jvm.Cond.methodLink "java/lang/StringUTF16" (115 : Nat) ({ cls := "java/lang/StringUTF16", name := "compress", desc := "([CI[BII)I" } : Jvm.MethodName)).before a0 Z = true := hw _ (List.mem_of_getElem? (i := 20) rfl)
theorem wd21 {Z : State} {a0 : Array Value} (hw : ∀ d ∈ tables_1, d.before a0 Z = true) : (Jvm.Cond.static ({ cls := "java/lang/StringUTF16", name := "compress", desc := "([CI[BII)I" } : Jvm.MethodName)).before a0 Z = true := hw _ (List.mem_of_getElem? (i := 21) rfl)
theorem wd22 {Z : State} {a0 : Array Value} (hw : ∀ d ∈ tables_1, d.before a0 Z = true) : (Jvm.Cond.code ({ cls := "java/lang/StringUTF16", name := "compress", desc := "([CI[BII)I" } : Jvm.MethodName) jdk_52_method_21_code (7 : Nat) (Option.some Jvm.ClassFile.FieldType.int)).before a0 Z = true := hw _ (List.mem_of_getElem? (i := 22) rfl)
theorem wd23 {Z : State} {a0 : Array Value} (hw : ∀ d ∈ tables_1, d.before a0 Z = true) : (Jvm.Cond.methodLink "java/lang/String" (47 : Nat) ({ cls := "java/lang/StringUTF16", name := "coderFromArrayLen", desc := "([BI)B" } : Jvm.MethodName)).before a0 Z = true := hw _ (List.mem_of_getElem? (i := 23) rfl)
theorem wd24 {Z : State} {a0 : Array Value} (hw : ∀ d ∈ tables_1, d.before a0 Z = true) : (Jvm.Cond.static ({ cls := "java/lang/StringUTF16", name := "coderFromArrayLen", desc := "([BI)B" } : Jvm.MethodName)).before a0 Z = true := hw _ (List.mem_of_getElem? (i := 24) rfl)
theorem wd25 {Z : State} {a0 : Array Value} (hw : ∀ d ∈ tables_1, d.before a0 Z = true) : (Jvm.Cond.code ({ cls := "java/lang/StringUTF16", name := "coderFromArrayLen", desc := "([BI)B" } : Jvm.MethodName) jdk_52_method_15_code (2 : Nat) (Option.some Jvm.ClassFile.FieldType.byte)).before a0 Z = true := hw _ (List.mem_of_getElem? (i := 25) rfl)
theorem wd26 {Z : State} {a0 : Array Value} (hw : ∀ d ∈ tables_1, d.before a0 Z = true) : (Jvm.Cond.fieldLink "java/lang/String" (15 : Nat) "java/lang/String" "coder" "B").before a0 Z = true := hw _ (List.mem_of_getElem? (i := 26) rfl)
theorem wd27 {Z : State} {a0 : Array Value} (hw : ∀ d ∈ tables_1, d.before a0 Z = true) : (Jvm.Cond.laysFinal "java/lang/String" "java/lang/String" "coder" "B").before a0 Z = true := hw _ (List.mem_of_getElem? (i := 27) rfl)
theorem wd28 {Z : State} {a0 : Array Value} (hw : ∀ d ∈ tables_1, d.before a0 Z = true) : (Jvm.Cond.fieldLink "java/lang/String" (9 : Nat) "java/lang/String" "value" "[B").before a0 Z = true := hw _ (List.mem_of_getElem? (i := 28) rfl)
theorem wd29 {Z : State} {a0 : Array Value} (hw : ∀ d ∈ tables_1, d.before a0 Z = true) : (Jvm.Cond.laysFinal "java/lang/String" "java/lang/String" "value" "[B").before a0 Z = true := hw _ (List.mem_of_getElem? (i := 29) rfl)
theorem wd30 {Z : State} {a0 : Array Value} (hw : ∀ d ∈ tables_1, d.before a0 Z = true) : (Jvm.Cond.methodLink "com/example/admit/admit/model/AclEntryRequirePrivilegeNamePinLaw" (12 : Nat) ({ cls := "com/example/admit/admit/model/AclEntry", name := "requirePrivilegeName", desc := "(Ljava/lang/String;)Ljava/lang/String;" } : Jvm.MethodName)).before a0 Z = true := hw _ (List.mem_of_getElem? (i := 30) rfl)
theorem wd31 {Z : State} {a0 : Array Value} (hw : ∀ d ∈ tables_1, d.before a0 Z = true) : (Jvm.Cond.static ({ cls := "com/example/admit/admit/model/AclEntry", name := "requirePrivilegeName", desc := "(Ljava/lang/String;)Ljava/lang/String;" } : Jvm.MethodName)).before a0 Z = true := hw _ (List.mem_of_getElem? (i := 31) rfl)
theorem wd32 {Z : State} {a0 : Array Value} (hw : ∀ d ∈ tables_1, d.before a0 Z = true) : (Jvm.Cond.initialized "com/example/admit/admit/model/AclEntry").before a0 Z = true := hw _ (List.mem_of_getElem? (i := 32) rfl)
theorem wd33 {Z : State} {a0 : Array Value} (hw : ∀ d ∈ tables_1, d.before a0 Z = true) : (Jvm.Cond.code ({ cls := "com/example/admit/admit/model/AclEntry", name := "requirePrivilegeName", desc := "(Ljava/lang/String;)Ljava/lang/String;" } : Jvm.MethodName) prog_16_method_3_code (1 : Nat) (Option.some (Jvm.ClassFile.FieldType.object "java/lang/String"))).before a0 Z = true := hw _ (List.mem_of_getElem? (i := 33) rfl)
theorem wd34 {Z : State} {a0 : Array Value} (hw : ∀ d ∈ tables_1, d.before a0 Z = true) : (Jvm.Cond.stringLink "com/example/admit/admit/model/AclEntry" (96 : Nat) "privilege").before a0 Z = true := hw _ (List.mem_of_getElem? (i := 34) rfl)
theorem wd37 {Z : State} {a0 : Array Value} (hw : ∀ d ∈ tables_1, d.before a0 Z = true) : (Jvm.Cond.methodLink "com/example/admit/admit/model/AclEntry" (9 : Nat) ({ cls := "java/util/Objects", name := "requireNonNull", desc := "(Ljava/lang/Object;Ljava/lang/String;)Ljava/lang/Object;" } : Jvm.MethodName)).before a0 Z = true := hw _ (List.mem_of_getElem? (i := 37) rfl)
theorem wd38 {Z : State} {a0 : Array Value} (hw : ∀ d ∈ tables_1, d.before a0 Z = true) : (Jvm.Cond.static ({ cls := "java/util/Objects", name := "requireNonNull", desc := "(Ljava/lang/Object;Ljava/lang/String;)Ljava/lang/Object;" } : Jvm.MethodName)).before a0 Z = true := hw _ (List.mem_of_getElem? (i := 38) rfl)
theorem wd39 {Z : State} {a0 : Array Value} (hw : ∀ d ∈ tables_1, d.before a0 Z = true) : (Jvm.Cond.initialized "java/util/Objects").before a0 Z = true := hw _ (List.mem_of_getElem? (i := 39) rfl)
theorem wd40 {Z : State} {a0 : Array Value} (hw : ∀ d ∈ tables_1, d.before a0 Z = true) : (Jvm.Cond.code ({ cls := "java/util/Objects", name := "requireNonNull", desc := "(Ljava/lang/Object;Ljava/lang/String;)Ljava/lang/Object;" } : Jvm.MethodName) jdk_31_method_11_code (2 : Nat) (Option.some (Jvm.ClassFile.FieldType.object "java/lang/Object"))).before a0 Z = true := hw _ (List.mem_of_getElem? (i := 40) rfl)
theorem wd41 {Z : State} {a0 : Array Value} (hw : ∀ d ∈ tables_1, d.before a0 Z = true) : (Jvm.Cond.classLink "com/example/admit/admit/model/AclEntry" (77 : Nat) "java/lang/String").before a0 Z = true := hw _ (List.mem_of_getElem? (i := 41) rfl)
theorem wd42 {Z : State} {a0 : Array Value} (hw : ∀ d ∈ tables_1, d.before a0 Z = true) : (Jvm.Cond.methodLink "com/example/admit/admit/model/AclEntry" (98 : Nat) ({ cls := "java/lang/String", name := "isEmpty", desc := "()Z" } : Jvm.MethodName)).before a0 Z = true := hw _ (List.mem_of_getElem? (i := 42) rfl)
theorem wd43 {Z : State} {a0 : Array Value} (hw : ∀ d ∈ tables_1, d.before a0 Z = true) : (Jvm.Cond.declares ({ cls := "java/lang/String", name := "isEmpty", desc := "()Z" } : Jvm.MethodName)).before a0 Z = true := hw _ (List.mem_of_getElem? (i := 43) rfl)
theorem wd44 {Z : State} {a0 : Array Value} (hw : ∀ d ∈ tables_1, d.before a0 Z = true) : (Jvm.Cond.instanceMethod ({ cls := "java/lang/String", name := "isEmpty", desc := "()Z" } : Jvm.MethodName)).before a0 Z = true := hw _ (List.mem_of_getElem? (i := 44) rfl)
theorem wd45 {Z : State} {a0 : Array Value} (hw : ∀ d ∈ tables_1, d.before a0 Z = true) : (Jvm.Cond.selects "java/lang/String" ({ cls := "java/lang/String", name := "isEmpty", desc := "()Z" } : Jvm.MethodName) ({ cls := "java/lang/String", name := "isEmpty", desc := "()Z" } : Jvm.MethodName)).before a0 Z = true := hw _ (List.mem_of_getElem? (i := 45) rfl)
theorem wd46 {Z : State} {a0 : Array Value} (hw : ∀ d ∈ tables_1, d.before a0 Z = true) : (Jvm.Cond.code ({ cls := "java/lang/String", name := "isEmpty", desc := "()Z" } : Jvm.MethodName) jdk_42_method_55_code (1 : Nat) (Option.some Jvm.ClassFile.FieldType.boolean)).before a0 Z = true := hw _ (List.mem_of_getElem? (i := 46) rfl)
theorem wd47 {Z : State} {a0 : Array Value} (hw : ∀ d ∈ tables_1, d.before a0 Z = true) : (Jvm.Cond.methodLink "com/example/admit/admit/model/AclEntryRequirePrivilegeNamePinLaw" (18 : Nat) ({ cls := "java/lang/String", name := "length", desc := "()I" } : Jvm.MethodName)).before a0 Z = true := hw _ (List.mem_of_getElem? (i := 47) rfl)
theorem wd48 {Z : State} {a0 : Array Value} (hw : ∀ d ∈ tables_1, d.before a0 Z = true) : (Jvm.Cond.declares ({ cls := "java/lang/String", name := "length", desc := "()I" } : Jvm.MethodName)).before a0 Z = true := hw _ (List.mem_of_getElem? (i := 48) rfl)
theorem wd49 {Z : State} {a0 : Array Value} (hw : ∀ d ∈ tables_1, d.before a0 Z = true) : (Jvm.Cond.instanceMethod ({ cls := "java/lang/String", name := "length", desc := "()I" } : Jvm.MethodName)).before a0 Z = true := hw _ (List.mem_of_getElem? (i := 49) rfl)
theorem wd50 {Z : State} {a0 : Array Value} (hw : ∀ d ∈ tables_1, d.before a0 Z = true) : (Jvm.Cond.selects "java/lang/String" ({ cls := "java/lang/String", name := "length", desc := "()I" } : Jvm.MethodName) ({ cls := "java/lang/String", name := "length", desc := "()I" } : Jvm.MethodName)).before a0 Z = true := hw _ (List.mem_of_getElem? (i := 50) rfl)
theorem wd57 {Z : State} {a0 : Array Value} (hw : ∀ d ∈ tables_1, d.before a0 Z = true) : (Jvm.Cond.methodLink "com/example/admit/admit/model/AclEntryRequirePrivilegeNamePinLaw" (22 : Nat) ({ cls := "java/lang/String", name := "charAt", desc := "(I)C" } : Jvm.MethodName)).before a0 Z = true := hw _ (List.mem_of_getElem? (i := 57) rfl)
theorem wd58 {Z : State} {a0 : Array Value} (hw : ∀ d ∈ tables_1, d.before a0 Z = true) : (Jvm.Cond.declares ({ cls := "java/lang/String", name := "charAt", desc := "(I)C" } : Jvm.MethodName)).before a0 Z = true := hw _ (List.mem_of_getElem? (i := 58) rfl)
theorem wd59 {Z : State} {a0 : Array Value} (hw : ∀ d ∈ tables_1, d.before a0 Z = true) : (Jvm.Cond.instanceMethod ({ cls := "java/lang/String", name := "charAt", desc := "(I)C" } : Jvm.MethodName)).before a0 Z = true := hw _ (List.mem_of_getElem? (i := 59) rfl)
theorem wd60 {Z : State} {a0 : Array Value} (hw : ∀ d ∈ tables_1, d.before a0 Z = true) : (Jvm.Cond.selects "java/lang/String" ({ cls := "java/lang/String", name := "charAt", desc := "(I)C" } : Jvm.MethodName) ({ cls := "java/lang/String", name := "charAt", desc := "(I)C" } : Jvm.MethodName)).before a0 Z = true := hw _ (List.mem_of_getElem? (i := 60) rfl)
theorem wd61 {Z : State} {a0 : Array Value} (hw : ∀ d ∈ tables_1, d.before a0 Z = true) : (Jvm.Cond.code ({ cls := "java/lang/String", name := "charAt", desc := "(I)C" } : Jvm.MethodName) jdk_42_method_56_code (2 : Nat) (Option.some Jvm.ClassFile.FieldType.char)).before a0 Z = true := hw _ (List.mem_of_getElem? (i := 61) rfl)
theorem wd62 {Z : State} {a0 : Array Value} (hw : ∀ d ∈ tables_1, d.before a0 Z = true) : (Jvm.Cond.methodLink "java/lang/String" (492 : Nat) ({ cls := "java/lang/String", name := "isLatin1", desc := "()Z" } : Jvm.MethodName)).before a0 Z = true := hw _ (List.mem_of_getElem? (i := 62) rfl)
theorem wd63 {Z : State} {a0 : Array Value} (hw : ∀ d ∈ tables_1, d.before a0 Z = true) : (Jvm.Cond.declares ({ cls := "java/lang/String", name := "isLatin1", desc := "()Z" } : Jvm.MethodName)).before a0 Z = true := hw _ (List.mem_of_getElem? (i := 63) rfl)
theorem wd64 {Z : State} {a0 : Array Value} (hw : ∀ d ∈ tables_1, d.before a0 Z = true) : (Jvm.Cond.instanceMethod ({ cls := "java/lang/String", name := "isLatin1", desc := "()Z" } : Jvm.MethodName)).before a0 Z = true := hw _ (List.mem_of_getElem? (i := 64) rfl)
theorem wd65 {Z : State} {a0 : Array Value} (hw : ∀ d ∈ tables_1, d.before a0 Z = true) : (Jvm.Cond.selects "java/lang/String" ({ cls := "java/lang/String", name := "isLatin1", desc := "()Z" } : Jvm.MethodName) ({ cls := "java/lang/String", name := "isLatin1", desc := "()Z" } : Jvm.MethodName)).before a0 Z = true := hw _ (List.mem_of_getElem? (i := 65) rfl)
theorem wd66 {Z : State} {a0 : Array Value} (hw : ∀ d ∈ tables_1, d.before a0 Z = true) : (Jvm.Cond.code ({ cls := "java/lang/String", name := "isLatin1", desc := "()Z" } : Jvm.MethodName) jdk_42_method_154_code (1 : Nat) (Option.some Jvm.ClassFile.FieldType.boolean)).before a0 Z = true := hw _ (List.mem_of_getElem? (i := 66) rfl)
theorem wd72 {Z : State} {a0 : Array Value} (hw : ∀ d ∈ tables_1, d.before a0 Z = true) : (Jvm.Cond.static ({ cls := "java/lang/String", name := "checkIndex", desc := "(II)V" } : Jvm.MethodName)).before a0 Z = true := hw _ (List.mem_of_getElem? (i := 72) rfl)
theorem wd73 {Z : State} {a0 : Array Value} (hw : ∀ d ∈ tables_1, d.before a0 Z = true) : (Jvm.Cond.code ({ cls := "java/lang/String", name := "checkIndex", desc := "(II)V" } : Jvm.MethodName) jdk_42_method_155_code (2 : Nat) (Option.none : Option Jvm.ClassFile.FieldType)).before a0 Z = true := hw _ (List.mem_of_getElem? (i := 73) rfl)
theorem wd74 {Z : State} {a0 : Array Value} (hw : ∀ d ∈ tables_1, d.before a0 Z = true) : (Jvm.Cond.fieldLink "java/lang/String" (1053 : Nat) "jdk/internal/util/Preconditions" "SIOOBE_FORMATTER" "Ljava/util/function/BiFunction;").before a0 Z = true := hw _ (List.mem_of_getElem? (i := 74) rfl)
theorem wd75 {Z : State} {a0 : Array Value} (hw : ∀ d ∈ tables_1, d.before a0 Z = true) : (Jvm.Cond.initialized "jdk/internal/util/Preconditions").before a0 Z = true := hw _ (List.mem_of_getElem? (i := 75) rfl)
theorem wd76 {Z : State} {a0 : Array Value} (hw : ∀ d ∈ tables_1, d.before a0 Z = true) : (Jvm.Cond.methodLink "java/lang/String" (1059 : Nat) ({ cls := "jdk/internal/util/Preconditions", name := "checkIndex", desc := "(IILjava/util/function/BiFunction;)I" } : Jvm.MethodName)).before a0 Z = true := hw _ (List.mem_of_getElem? (i := 76) rfl)
theorem wd77 {Z : State} {a0 : Array Value} (hw : ∀ d ∈ tables_1, d.before a0 Z = true) : (Jvm.Cond.static ({ cls := "jdk/internal/util/Preconditions", name := "checkIndex", desc := "(IILjava/util/function/BiFunction;)I" } : Jvm.MethodName)).before a0 Z = true := hw _ (List.mem_of_getElem? (i := 77) rfl)
theorem wd78 {Z : State} {a0 : Array Value} (hw : ∀ d ∈ tables_1, d.before a0 Z = true) : (Jvm.Cond.code ({ cls := "jdk/internal/util/Preconditions", name := "checkIndex", desc := "(IILjava/util/function/BiFunction;)I" } : Jvm.MethodName) jdk_41_method_11_code (3 : Nat) (Option.some Jvm.ClassFile.FieldType.int)).before a0 Z = true := hw _ (List.mem_of_getElem? (i := 78) rfl)
theorem wd79 {Z : State} {a0 : Array Value} (hw : ∀ d ∈ tables_1, d.before a0 Z = true) : (Jvm.Cond.methodLink "java/lang/StringUTF16" (119 : Nat) ({ cls := "java/lang/StringUTF16", name := "toBytes", desc := "([CII)[B" } : Jvm.MethodName)).before a0 Z = true := hw _ (List.mem_of_getElem? (i := 79) rfl)
theorem wd80 {Z : State} {a0 : Array Value} (hw : ∀ d ∈ tables_1, d.before a0 Z = true) : (Jvm.Cond.static ({ cls := "java/lang/StringUTF16", name := "toBytes", desc := "([CII)[B" } : Jvm.MethodName)).before a0 Z = true := hw _ (List.mem_of_getElem? (i := 80) rfl)
theorem wd81 {Z : State} {a0 : Array Value} (hw : ∀ d ∈ tables_1, d.before a0 Z = true) : (Jvm.Cond.code ({ cls := "java/lang/StringUTF16", name := "toBytes", desc := "([CII)[B" } : Jvm.MethodName) jdk_52_method_14_code (5 : Nat) (Option.some (Jvm.ClassFile.FieldType.array Jvm.ClassFile.FieldType.byte))).before a0 Z = true := hw _ (List.mem_of_getElem? (i := 81) rfl)
theorem wd82 {Z : State} {a0 : Array Value} (hw : ∀ d ∈ tables_1, d.before a0 Z = true) : (Jvm.Cond.methodLink "java/lang/StringUTF16" (107 : Nat) ({ cls := "java/lang/StringUTF16", name := "newBytesFor", desc := "(I)[B" } : Jvm.MethodName)).before a0 Z = true := hw _ (List.mem_of_getElem? (i := 82) rfl)
theorem wd83 {Z : State} {a0 : Array Value} (hw : ∀ d ∈ tables_1, d.before a0 Z = true) : (Jvm.Cond.static ({ cls := "java/lang/StringUTF16", name := "newBytesFor", desc := "(I)[B" } : Jvm.MethodName)).before a0 Z = true := hw _ (List.mem_of_getElem? (i := 83) rfl)
theorem wd84 {Z : State} {a0 : Array Value} (hw : ∀ d ∈ tables_1, d.before a0 Z = true) : (Jvm.Cond.code ({ cls := "java/lang/StringUTF16", name := "newBytesFor", desc := "(I)[B" } : Jvm.MethodName) jdk_52_method_2_code (1 : Nat) (Option.some (Jvm.ClassFile.FieldType.array Jvm.ClassFile.FieldType.byte))).before a0 Z = true := hw _ (List.mem_of_getElem? (i := 84) rfl)
theorem wd85 {Z : State} {a0 : Array Value} (hw : ∀ d ∈ tables_1, d.before a0 Z = true) : (Jvm.Cond.methodLink "java/lang/StringUTF16" (11 : Nat) ({ cls := "java/lang/StringUTF16", name := "newBytesLength", desc := "(I)I" } : Jvm.MethodName)).before a0 Z = true := hw _ (List.mem_of_getElem? (i := 85) rfl)
theorem wd86 {Z : State} {a0 : Array Value} (hw : ∀ d ∈ tables_1, d.before a0 Z = true) : (Jvm.Cond.static ({ cls := "java/lang/StringUTF16", name := "newBytesLength", desc := "(I)I" } : Jvm.MethodName)).before a0 Z = true := hw _ (List.mem_of_getElem? (i := 86) rfl)
theorem wd87 {Z : State} {a0 : Array Value} (hw : ∀ d ∈ tables_1, d.before a0 Z = true) : (Jvm.Cond.code ({ cls := "java/lang/StringUTF16", name := "newBytesLength", desc := "(I)I" } : Jvm.MethodName) jdk_52_method_3_code (1 : Nat) (Option.some Jvm.ClassFile.FieldType.int)).before a0 Z = true := hw _ (List.mem_of_getElem? (i := 87) rfl)
theorem wd88 {Z : State} {a0 : Array Value} (hw : ∀ d ∈ tables_1, d.before a0 Z = true) : (Jvm.Cond.constant "java/lang/StringUTF16" (20 : Nat) (1073741823 : Int32)).before a0 Z = true := hw _ (List.mem_of_getElem? (i := 88) rfl)
theorem wd89 {Z : State} {a0 : Array Value} (hw : ∀ d ∈ tables_1, d.before a0 Z = true) : (Jvm.Cond.methodLink "java/lang/StringUTF16" (111 : Nat) ({ cls := "java/lang/StringUTF16", name := "putChar", desc := "([BII)V" } : Jvm.MethodName)).before a0 Z = true := hw _ (List.mem_of_getElem? (i := 89) rfl)
theorem wd90 {Z : State} {a0 : Array Value} (hw : ∀ d ∈ tables_1, d.before a0 Z = true) : (Jvm.Cond.static ({ cls := "java/lang/StringUTF16", name := "putChar", desc := "([BII)V" } : Jvm.MethodName)).before a0 Z = true := hw _ (List.mem_of_getElem? (i := 90) rfl)
theorem wd91 {Z : State} {a0 : Array Value} (hw : ∀ d ∈ tables_1, d.before a0 Z = true) : (Jvm.Cond.code ({ cls := "java/lang/StringUTF16", name := "putChar", desc := "([BII)V" } : Jvm.MethodName) jdk_52_method_4_code (3 : Nat) (Option.none : Option Jvm.ClassFile.FieldType)).before a0 Z = true := hw _ (List.mem_of_getElem? (i := 91) rfl)
theorem wd92 {Z : State} {a0 : Array Value} (hw : ∀ d ∈ tables_1, d.before a0 Z = true) : (Jvm.Cond.fieldLink "java/lang/StringUTF16" (44 : Nat) "java/lang/StringUTF16" "$assertionsDisabled" "Z").before a0 Z = true := hw _ (List.mem_of_getElem? (i := 92) rfl)
theorem wd93 {Z : State} {a0 : Array Value} (hw : ∀ d ∈ tables_1, d.before a0 Z = true) : (Jvm.Cond.fieldLink "java/lang/StringUTF16" (59 : Nat) "java/lang/StringUTF16" "HI_BYTE_SHIFT" "I").before a0 Z = true := hw _ (List.mem_of_getElem? (i := 93) rfl)
theorem wd94 {Z : State} {a0 : Array Value} (hw : ∀ d ∈ tables_1, d.before a0 Z = true) : (Jvm.Cond.fieldLink "java/lang/StringUTF16" (63 : Nat) "java/lang/StringUTF16" "LO_BYTE_SHIFT" "I").before a0 Z = true := hw _ (List.mem_of_getElem? (i := 94) rfl)
theorem wd95 {Z : State} {a0 : Array Value} (hw : ∀ d ∈ tables_1, d.before a0 Z = true) : (Jvm.Cond.methodLink "java/lang/StringUTF16" (71 : Nat) ({ cls := "java/lang/StringUTF16", name := "getChar", desc := "([BI)C" } : Jvm.MethodName)).before a0 Z = true := hw _ (List.mem_of_getElem? (i := 95) rfl)
theorem wd96 {Z : State} {a0 : Array Value} (hw : ∀ d ∈ tables_1, d.before a0 Z = true) : (Jvm.Cond.static ({ cls := "java/lang/StringUTF16", name := "getChar", desc := "([BI)C" } : Jvm.MethodName)).before a0 Z = true := hw _ (List.mem_of_getElem? (i := 96) rfl)
theorem wd97 {Z : State} {a0 : Array Value} (hw : ∀ d ∈ tables_1, d.before a0 Z = true) : (Jvm.Cond.code ({ cls := "java/lang/StringUTF16", name := "getChar", desc := "([BI)C" } : Jvm.MethodName) jdk_52_method_5_code (2 : Nat) (Option.some Jvm.ClassFile.FieldType.char)).before a0 Z = true := hw _ (List.mem_of_getElem? (i := 97) rfl)
theorem wd98 {Z : State} {a0 : Array Value} (hw : ∀ d ∈ tables_1, d.before a0 Z = true) : (Jvm.Cond.methodLink "java/lang/String" (498 : Nat) ({ cls := "java/lang/StringUTF16", name := "charAt", desc := "([BI)C" } : Jvm.MethodName)).before a0 Z = true := hw _ (List.mem_of_getElem? (i := 98) rfl)
theorem wd99 {Z : State} {a0 : Array Value} (hw : ∀ d ∈ tables_1, d.before a0 Z = true) : (Jvm.Cond.static ({ cls := "java/lang/StringUTF16", name := "charAt", desc := "([BI)C" } : Jvm.MethodName)).before a0 Z = true := hw _ (List.mem_of_getElem? (i := 99) rfl)
theorem wd100 {Z : State} {a0 : Array Value} (hw : ∀ d ∈ tables_1, d.before a0 Z = true) : (Jvm.Cond.code ({ cls := "java/lang/StringUTF16", name := "charAt", desc := "([BI)C" } : Jvm.MethodName) jdk_52_method_83_code (2 : Nat) (Option.some Jvm.ClassFile.FieldType.char)).before a0 Z = true := hw _ (List.mem_of_getElem? (i := 100) rfl)
theorem wd101 {Z : State} {a0 : Array Value} (hw : ∀ d ∈ tables_1, d.before a0 Z = true) : (Jvm.Cond.methodLink "java/lang/StringUTF16" (67 : Nat) ({ cls := "java/lang/StringUTF16", name := "checkIndex", desc := "(I[B)V" } : Jvm.MethodName)).before a0 Z = true := hw _ (List.mem_of_getElem? (i := 101) rfl)
theorem wd102 {Z : State} {a0 : Array Value} (hw : ∀ d ∈ tables_1, d.before a0 Z = true) : (Jvm.Cond.static ({ cls := "java/lang/StringUTF16", name := "checkIndex", desc := "(I[B)V" } : Jvm.MethodName)).before a0 Z = true := hw _ (List.mem_of_getElem? (i := 102) rfl)
theorem wd103 {Z : State} {a0 : Array Value} (hw : ∀ d ∈ tables_1, d.before a0 Z = true) : (Jvm.Cond.code ({ cls := "java/lang/StringUTF16", name := "checkIndex", desc := "(I[B)V" } : Jvm.MethodName) jdk_52_method_91_code (2 : Nat) (Option.none : Option Jvm.ClassFile.FieldType)).before a0 Z = true := hw _ (List.mem_of_getElem? (i := 103) rfl)
theorem wd104 {Z : State} {a0 : Array Value} (hw : ∀ d ∈ tables_1, d.before a0 Z = true) : (Jvm.Cond.methodLink "java/lang/StringUTF16" (48 : Nat) ({ cls := "java/lang/StringUTF16", name := "length", desc := "([B)I" } : Jvm.MethodName)).before a0 Z = true := hw _ (List.mem_of_getElem? (i := 104) rfl)
theorem wd105 {Z : State} {a0 : Array Value} (hw : ∀ d ∈ tables_1, d.before a0 Z = true) : (Jvm.Cond.static ({ cls := "java/lang/StringUTF16", name := "length", desc := "([B)I" } : Jvm.MethodName)).before a0 Z = true := hw _ (List.mem_of_getElem? (i := 105) rfl)
theorem wd106 {Z : State} {a0 : Array Value} (hw : ∀ d ∈ tables_1, d.before a0 Z = true) : (Jvm.Cond.code ({ cls := "java/lang/StringUTF16", name := "length", desc := "([B)I" } : Jvm.MethodName) jdk_52_method_6_code (1 : Nat) (Option.some Jvm.ClassFile.FieldType.int)).before a0 Z = true := hw _ (List.mem_of_getElem? (i := 106) rfl)
theorem wd107 {Z : State} {a0 : Array Value} (hw : ∀ d ∈ tables_1, d.before a0 Z = true) : (Jvm.Cond.methodLink "java/lang/StringUTF16" (414 : Nat) ({ cls := "java/lang/String", name := "checkIndex", desc := "(II)V" } : Jvm.MethodName)).before a0 Z = true := hw _ (List.mem_of_getElem? (i := 107) rfl)
theorem dc_jdk_52_method_3_code_0 : decode jdk_52_method_3_code 0 = .ok (.iload_n 0, 1) := by decide +kernel
theorem dc_jdk_52_method_3_code_1 : decode jdk_52_method_3_code 1 = .ok (.ifCond .ge 11, 3) := by decide +kernel
theorem dc_jdk_52_method_3_code_12 : decode jdk_52_method_3_code 12 = .ok (.iload_n 0, 1) := by decide +kernel
theorem dc_jdk_52_method_3_code_13 : decode jdk_52_method_3_code 13 = .ok (.ldc 20, 2) := by decide +kernel
theorem dc_jdk_52_method_3_code_15 : decode jdk_52_method_3_code 15 = .ok (.if_icmp .lt 40, 3) := by decide +kernel
theorem dc_jdk_52_method_3_code_55 : decode jdk_52_method_3_code 55 = .ok (.iload_n 0, 1) := by decide +kernel
theorem dc_jdk_52_method_3_code_56 : decode jdk_52_method_3_code 56 = .ok (.iconst 1, 1) := by decide +kernel
theorem dc_jdk_52_method_3_code_57 : decode jdk_52_method_3_code 57 = .ok (.ishl, 1) := by decide +kernel
theorem dc_jdk_52_method_3_code_58 : decode jdk_52_method_3_code 58 = .ok (.ireturn, 1) := by decide +kernel
theorem dc_jdk_52_method_2_code_0 : decode jdk_52_method_2_code 0 = .ok (.iload_n 0, 1) := by decide +kernel
theorem dc_jdk_52_method_2_code_1 : decode jdk_52_method_2_code 1 = .ok (.invokestatic 11, 3) := by decide +kernel
theorem dc_jdk_52_method_2_code_4 : decode jdk_52_method_2_code 4 = .ok (.newarray .byte, 2) := by decide +kernel
theorem dc_jdk_52_method_2_code_6 : decode jdk_52_method_2_code 6 = .ok (.areturn, 1) := by decide +kernel
theorem dc_jdk_52_method_4_code_0 : decode jdk_52_method_4_code 0 = .ok (.getstatic 44, 3) := by decide +kernel
theorem dc_jdk_52_method_4_code_3 : decode jdk_52_method_4_code 3 = .ok (.ifCond .ne 25, 3) := by decide +kernel
theorem dc_jdk_52_method_4_code_28 : decode jdk_52_method_4_code 28 = .ok (.iload_n 1, 1) := by decide +kernel
theorem dc_jdk_52_method_4_code_29 : decode jdk_52_method_4_code 29 = .ok (.iconst 1, 1) := by decide +kernel
theorem dc_jdk_52_method_4_code_30 : decode jdk_52_method_4_code 30 = .ok (.ishl, 1) := by decide +kernel
theorem dc_jdk_52_method_4_code_31 : decode jdk_52_method_4_code 31 = .ok (.istore_n 1, 1) := by decide +kernel
theorem dc_jdk_52_method_4_code_32 : decode jdk_52_method_4_code 32 = .ok (.aload_n 0, 1) := by decide +kernel
theorem dc_jdk_52_method_4_code_33 : decode jdk_52_method_4_code 33 = .ok (.iload_n 1, 1) := by decide +kernel
theorem dc_jdk_52_method_4_code_34 : decode jdk_52_method_4_code 34 = .ok (.iinc 1 1, 3) := by decide +kernel
theorem dc_jdk_52_method_4_code_37 : decode jdk_52_method_4_code 37 = .ok (.iload_n 2, 1) := by decide +kernel
theorem dc_jdk_52_method_4_code_38 : decode jdk_52_method_4_code 38 = .ok (.getstatic 59, 3) := by decide +kernel
theorem dc_jdk_52_method_4_code_41 : decode jdk_52_method_4_code 41 = .ok (.ishr, 1) := by decide +kernel
theorem dc_jdk_52_method_4_code_42 : decode jdk_52_method_4_code 42 = .ok (.i2b, 1) := by decide +kernel
theorem dc_jdk_52_method_4_code_43 : decode jdk_52_method_4_code 43 = .ok (.bastore, 1) := by decide +kernel
theorem dc_jdk_52_method_4_code_44 : decode jdk_52_method_4_code 44 = .ok (.aload_n 0, 1) := by decide +kernel
theorem dc_jdk_52_method_4_code_45 : decode jdk_52_method_4_code 45 = .ok (.iload_n 1, 1) := by decide +kernel
theorem dc_jdk_52_method_4_code_46 : decode jdk_52_method_4_code 46 = .ok (.iload_n 2, 1) := by decide +kernel
theorem dc_jdk_52_method_4_code_47 : decode jdk_52_method_4_code 47 = .ok (.getstatic 63, 3) := by decide +kernel
theorem dc_jdk_52_method_4_code_50 : decode jdk_52_method_4_code 50 = .ok (.ishr, 1) := by decide +kernel
theorem dc_jdk_52_method_4_code_51 : decode jdk_52_method_4_code 51 = .ok (.i2b, 1) := by decide +kernel
theorem dc_jdk_52_method_4_code_52 : decode jdk_52_method_4_code 52 = .ok (.bastore, 1) := by decide +kernel
theorem dc_jdk_52_method_4_code_53 : decode jdk_52_method_4_code 53 = .ok (.return_, 1) := by decide +kernel
theorem dc_jdk_52_method_5_code_0 : decode jdk_52_method_5_code 0 = .ok (.getstatic 44, 3) := by decide +kernel
theorem dc_jdk_52_method_5_code_3 : decode jdk_52_method_5_code 3 = .ok (.ifCond .ne 25, 3) := by decide +kernel
theorem dc_jdk_52_method_5_code_28 : decode jdk_52_method_5_code 28 = .ok (.iload_n 1, 1) := by decide +kernel
theorem dc_jdk_52_method_5_code_29 : decode jdk_52_method_5_code 29 = .ok (.iconst 1, 1) := by decide +kernel
theorem dc_jdk_52_method_5_code_30 : decode jdk_52_method_5_code 30 = .ok (.ishl, 1) := by decide +kernel
theorem dc_jdk_52_method_5_code_31 : decode jdk_52_method_5_code 31 = .ok (.istore_n 1, 1) := by decide +kernel
theorem dc_jdk_52_method_5_code_32 : decode jdk_52_method_5_code 32 = .ok (.aload_n 0, 1) := by decide +kernel
theorem dc_jdk_52_method_5_code_33 : decode jdk_52_method_5_code 33 = .ok (.iload_n 1, 1) := by decide +kernel
theorem dc_jdk_52_method_5_code_34 : decode jdk_52_method_5_code 34 = .ok (.iinc 1 1, 3) := by decide +kernel
theorem dc_jdk_52_method_5_code_37 : decode jdk_52_method_5_code 37 = .ok (.baload, 1) := by decide +kernel
theorem dc_jdk_52_method_5_code_38 : decode jdk_52_method_5_code 38 = .ok (.sipush 255, 3) := by decide +kernel
theorem dc_jdk_52_method_5_code_41 : decode jdk_52_method_5_code 41 = .ok (.iand, 1) := by decide +kernel
theorem dc_jdk_52_method_5_code_42 : decode jdk_52_method_5_code 42 = .ok (.getstatic 59, 3) := by decide +kernel
theorem dc_jdk_52_method_5_code_45 : decode jdk_52_method_5_code 45 = .ok (.ishl, 1) := by decide +kernel
theorem dc_jdk_52_method_5_code_46 : decode jdk_52_method_5_code 46 = .ok (.aload_n 0, 1) := by decide +kernel
theorem dc_jdk_52_method_5_code_47 : decode jdk_52_method_5_code 47 = .ok (.iload_n 1, 1) := by decide +kernel
theorem dc_jdk_52_method_5_code_48 : decode jdk_52_method_5_code 48 = .ok (.baload, 1) := by decide +kernel
theorem dc_jdk_52_method_5_code_49 : decode jdk_52_method_5_code 49 = .ok (.sipush 255, 3) := by decide +kernel
theorem dc_jdk_52_method_5_code_52 : decode jdk_52_method_5_code 52 = .ok (.iand, 1) := by decide +kernel
theorem dc_jdk_52_method_5_code_53 : decode jdk_52_method_5_code 53 = .ok (.getstatic 63, 3) := by decide +kernel
theorem dc_jdk_52_method_5_code_56 : decode jdk_52_method_5_code 56 = .ok (.ishl, 1) := by decide +kernel
theorem dc_jdk_52_method_5_code_57 : decode jdk_52_method_5_code 57 = .ok (.ior, 1) := by decide +kernel
theorem dc_jdk_52_method_5_code_58 : decode jdk_52_method_5_code 58 = .ok (.i2c, 1) := by decide +kernel
theorem dc_jdk_52_method_5_code_59 : decode jdk_52_method_5_code 59 = .ok (.ireturn, 1) := by decide +kernel
theorem dc_jdk_52_method_14_code_0 : decode jdk_52_method_14_code 0 = .ok (.iload_n 2, 1) := by decide +kernel
theorem dc_jdk_52_method_14_code_1 : decode jdk_52_method_14_code 1 = .ok (.invokestatic 107, 3) := by decide +kernel
theorem dc_jdk_52_method_14_code_4 : decode jdk_52_method_14_code 4 = .ok (.astore_n 3, 1) := by decide +kernel
theorem dc_jdk_52_method_14_code_5 : decode jdk_52_method_14_code 5 = .ok (.iconst 0, 1) := by decide +kernel
theorem dc_jdk_52_method_14_code_6 : decode jdk_52_method_14_code 6 = .ok (.istore 4, 2) := by decide +kernel
theorem dc_jdk_52_method_14_code_8 : decode jdk_52_method_14_code 8 = .ok (.iload 4, 2) := by decide +kernel
theorem dc_jdk_52_method_14_code_10 : decode jdk_52_method_14_code 10 = .ok (.iload_n 2, 1) := by decide +kernel
theorem dc_jdk_52_method_14_code_11 : decode jdk_52_method_14_code 11 = .ok (.if_icmp .ge 21, 3) := by decide +kernel
theorem dc_jdk_52_method_14_code_14 : decode jdk_52_method_14_code 14 = .ok (.aload_n 3, 1) := by decide +kernel
theorem dc_jdk_52_method_14_code_15 : decode jdk_52_method_14_code 15 = .ok (.iload 4, 2) := by decide +kernel
theorem dc_jdk_52_method_14_code_17 : decode jdk_52_method_14_code 17 = .ok (.aload_n 0, 1) := by decide +kernel
theorem dc_jdk_52_method_14_code_18 : decode jdk_52_method_14_code 18 = .ok (.iload_n 1, 1) := by decide +kernel
theorem dc_jdk_52_method_14_code_19 : decode jdk_52_method_14_code 19 = .ok (.caload, 1) := by decide +kernel
theorem dc_jdk_52_method_14_code_20 : decode jdk_52_method_14_code 20 = .ok (.invokestatic 111, 3) := by decide +kernel
theorem dc_jdk_52_method_14_code_23 : decode jdk_52_method_14_code 23 = .ok (.iinc 1 1, 3) := by decide +kernel
theorem dc_jdk_52_method_14_code_26 : decode jdk_52_method_14_code 26 = .ok (.iinc 4 1, 3) := by decide +kernel
theorem dc_jdk_52_method_14_code_29 : decode jdk_52_method_14_code 29 = .ok (.goto (-21), 3) := by decide +kernel
theorem dc_jdk_52_method_14_code_32 : decode jdk_52_method_14_code 32 = .ok (.aload_n 3, 1) := by decide +kernel
theorem dc_jdk_52_method_14_code_33 : decode jdk_52_method_14_code 33 = .ok (.areturn, 1) := by decide +kernel
theorem dc_jdk_52_method_21_code_0 : decode jdk_52_method_21_code 0 = .ok (.iconst 0, 1) := by decide +kernel
theorem dc_jdk_52_method_21_code_1 : decode jdk_52_method_21_code 1 = .ok (.istore 5, 2) := by decide +kernel
theorem dc_jdk_52_method_21_code_3 : decode jdk_52_method_21_code 3 = .ok (.iload 5, 2) := by decide +kernel
theorem dc_jdk_52_method_21_code_5 : decode jdk_52_method_21_code 5 = .ok (.iload 4, 2) := by decide +kernel
theorem dc_jdk_52_method_21_code_7 : decode jdk_52_method_21_code 7 = .ok (.if_icmp .ge 37, 3) := by decide +kernel
theorem dc_jdk_52_method_21_code_10 : decode jdk_52_method_21_code 10 = .ok (.aload_n 0, 1) := by decide +kernel
theorem dc_jdk_52_method_21_code_11 : decode jdk_52_method_21_code 11 = .ok (.iload_n 1, 1) := by decide +kernel
theorem dc_jdk_52_method_21_code_12 : decode jdk_52_method_21_code 12 = .ok (.caload, 1) := by decide +kernel
theorem dc_jdk_52_method_21_code_13 : decode jdk_52_method_21_code 13 = .ok (.istore 6, 2) := by decide +kernel
theorem dc_jdk_52_method_21_code_15 : decode jdk_52_method_21_code 15 = .ok (.iload 6, 2) := by decide +kernel
theorem dc_jdk_52_method_21_code_17 : decode jdk_52_method_21_code 17 = .ok (.sipush 255, 3) := by decide +kernel
theorem dc_jdk_52_method_21_code_20 : decode jdk_52_method_21_code 20 = .ok (.if_icmp .le 6, 3) := by decide +kernel
theorem dc_jdk_52_method_21_code_23 : decode jdk_52_method_21_code 23 = .ok (.iload 5, 2) := by decide +kernel
theorem dc_jdk_52_method_21_code_25 : decode jdk_52_method_21_code 25 = .ok (.ireturn, 1) := by decide +kernel
theorem dc_jdk_52_method_21_code_26 : decode jdk_52_method_21_code 26 = .ok (.aload_n 2, 1) := by decide +kernel
theorem dc_jdk_52_method_21_code_27 : decode jdk_52_method_21_code 27 = .ok (.iload_n 3, 1) := by decide +kernel
theorem dc_jdk_52_method_21_code_28 : decode jdk_52_method_21_code 28 = .ok (.iload 6, 2) := by decide +kernel
theorem dc_jdk_52_method_21_code_30 : decode jdk_52_method_21_code 30 = .ok (.i2b, 1) := by decide +kernel
theorem dc_jdk_52_method_21_code_31 : decode jdk_52_method_21_code 31 = .ok (.bastore, 1) := by decide +kernel
theorem dc_jdk_52_method_21_code_32 : decode jdk_52_method_21_code 32 = .ok (.iinc 1 1, 3) := by decide +kernel
theorem dc_jdk_52_method_21_code_35 : decode jdk_52_method_21_code 35 = .ok (.iinc 3 1, 3) := by decide +kernel
theorem dc_jdk_52_method_21_code_38 : decode jdk_52_method_21_code 38 = .ok (.iinc 5 1, 3) := by decide +kernel
theorem dc_jdk_52_method_16_code_0 : decode jdk_52_method_16_code 0 = .ok (.iload_n 2, 1) := by decide +kernel
theorem dc_jdk_52_method_16_code_1 : decode jdk_52_method_16_code 1 = .ok (.newarray .byte, 2) := by decide +kernel
theorem dc_jdk_52_method_16_code_3 : decode jdk_52_method_16_code 3 = .ok (.astore_n 3, 1) := by decide +kernel
theorem dc_jdk_52_method_16_code_4 : decode jdk_52_method_16_code 4 = .ok (.aload_n 0, 1) := by decide +kernel
theorem dc_jdk_52_method_16_code_5 : decode jdk_52_method_16_code 5 = .ok (.iload_n 1, 1) := by decide +kernel
theorem dc_jdk_52_method_16_code_6 : decode jdk_52_method_16_code 6 = .ok (.aload_n 3, 1) := by decide +kernel
theorem dc_jdk_52_method_16_code_7 : decode jdk_52_method_16_code 7 = .ok (.iconst 0, 1) := by decide +kernel
theorem dc_jdk_52_method_16_code_8 : decode jdk_52_method_16_code 8 = .ok (.iload_n 2, 1) := by decide +kernel
theorem dc_jdk_52_method_16_code_9 : decode jdk_52_method_16_code 9 = .ok (.invokestatic 115, 3) := by decide +kernel
theorem dc_jdk_52_method_16_code_12 : decode jdk_52_method_16_code 12 = .ok (.istore 4, 2) := by decide +kernel
theorem dc_jdk_52_method_16_code_14 : decode jdk_52_method_16_code 14 = .ok (.iload 4, 2) := by decide +kernel
theorem dc_jdk_52_method_16_code_16 : decode jdk_52_method_16_code 16 = .ok (.iload_n 2, 1) := by decide +kernel
theorem dc_jdk_52_method_16_code_17 : decode jdk_52_method_16_code 17 = .ok (.if_icmp .eq 40, 3) := by decide +kernel
theorem dc_jdk_52_method_16_code_20 : decode jdk_52_method_16_code 20 = .ok (.aload_n 0, 1) := by decide +kernel
theorem dc_jdk_52_method_16_code_21 : decode jdk_52_method_16_code 21 = .ok (.iload_n 1, 1) := by decide +kernel
theorem dc_jdk_52_method_16_code_22 : decode jdk_52_method_16_code 22 = .ok (.iload_n 2, 1) := by decide +kernel
theorem dc_jdk_52_method_16_code_23 : decode jdk_52_method_16_code 23 = .ok (.invokestatic 119, 3) := by decide +kernel
theorem dc_jdk_52_method_16_code_26 : decode jdk_52_method_16_code 26 = .ok (.astore 5, 2) := by decide +kernel
theorem dc_jdk_52_method_16_code_28 : decode jdk_52_method_16_code 28 = .ok (.aload 5, 2) := by decide +kernel
theorem dc_jdk_52_method_16_code_30 : decode jdk_52_method_16_code 30 = .ok (.iload 4, 2) := by decide +kernel
theorem dc_jdk_52_method_16_code_32 : decode jdk_52_method_16_code 32 = .ok (.invokestatic 71, 3) := by decide +kernel
theorem dc_jdk_52_method_16_code_35 : decode jdk_52_method_16_code 35 = .ok (.sipush 255, 3) := by decide +kernel
theorem dc_jdk_52_method_16_code_38 : decode jdk_52_method_16_code 38 = .ok (.if_icmp .gt 16, 3) := by decide +kernel
theorem dc_jdk_52_method_16_code_54 : decode jdk_52_method_16_code 54 = .ok (.aload 5, 2) := by decide +kernel
theorem dc_jdk_52_method_16_code_56 : decode jdk_52_method_16_code 56 = .ok (.areturn, 1) := by decide +kernel
theorem dc_jdk_52_method_15_code_0 : decode jdk_52_method_15_code 0 = .ok (.iload_n 1, 1) := by decide +kernel
theorem dc_jdk_52_method_15_code_1 : decode jdk_52_method_15_code 1 = .ok (.aload_n 0, 1) := by decide +kernel
theorem dc_jdk_52_method_15_code_2 : decode jdk_52_method_15_code 2 = .ok (.arraylength, 1) := by decide +kernel
theorem dc_jdk_52_method_15_code_3 : decode jdk_52_method_15_code 3 = .ok (.isub, 1) := by decide +kernel
theorem dc_jdk_52_method_15_code_4 : decode jdk_52_method_15_code 4 = .ok (.bipush 31, 2) := by decide +kernel
theorem dc_jdk_52_method_15_code_6 : decode jdk_52_method_15_code 6 = .ok (.iushr, 1) := by decide +kernel
theorem dc_jdk_52_method_15_code_7 : decode jdk_52_method_15_code 7 = .ok (.i2b, 1) := by decide +kernel
theorem dc_jdk_52_method_15_code_8 : decode jdk_52_method_15_code 8 = .ok (.ireturn, 1) := by decide +kernel
theorem dc_jdk_42_method_149_code_0 : decode jdk_42_method_149_code 0 = .ok (.aload_n 0, 1) := by decide +kernel
theorem dc_jdk_42_method_149_code_1 : decode jdk_42_method_149_code 1 = .ok (.invokespecial 1, 3) := by decide +kernel
theorem dc_jdk_42_method_149_code_4 : decode jdk_42_method_149_code 4 = .ok (.iload_n 3, 1) := by decide +kernel
theorem dc_jdk_42_method_149_code_5 : decode jdk_42_method_149_code 5 = .ok (.ifCond .ne 22, 3) := by decide +kernel
theorem dc_jdk_42_method_149_code_27 : decode jdk_42_method_149_code 27 = .ok (.getstatic 38, 3) := by decide +kernel
theorem dc_jdk_42_method_149_code_30 : decode jdk_42_method_149_code 30 = .ok (.ifCond .eq 28, 3) := by decide +kernel
theorem dc_jdk_42_method_149_code_33 : decode jdk_42_method_149_code 33 = .ok (.aload_n 1, 1) := by decide +kernel
theorem dc_jdk_42_method_149_code_34 : decode jdk_42_method_149_code 34 = .ok (.iload_n 2, 1) := by decide +kernel
theorem dc_jdk_42_method_149_code_35 : decode jdk_42_method_149_code 35 = .ok (.iload_n 3, 1) := by decide +kernel
theorem dc_jdk_42_method_149_code_36 : decode jdk_42_method_149_code 36 = .ok (.invokestatic 177, 3) := by decide +kernel
theorem dc_jdk_42_method_149_code_39 : decode jdk_42_method_149_code 39 = .ok (.astore 5, 2) := by decide +kernel
theorem dc_jdk_42_method_149_code_41 : decode jdk_42_method_149_code 41 = .ok (.aload_n 0, 1) := by decide +kernel
theorem dc_jdk_42_method_149_code_42 : decode jdk_42_method_149_code 42 = .ok (.aload 5, 2) := by decide +kernel
theorem dc_jdk_42_method_149_code_44 : decode jdk_42_method_149_code 44 = .ok (.iload_n 3, 1) := by decide +kernel
theorem dc_jdk_42_method_149_code_45 : decode jdk_42_method_149_code 45 = .ok (.invokestatic 47, 3) := by decide +kernel
theorem dc_jdk_42_method_149_code_48 : decode jdk_42_method_149_code 48 = .ok (.putfield 15, 3) := by decide +kernel
theorem dc_jdk_42_method_149_code_51 : decode jdk_42_method_149_code 51 = .ok (.aload_n 0, 1) := by decide +kernel
theorem dc_jdk_42_method_149_code_52 : decode jdk_42_method_149_code 52 = .ok (.aload 5, 2) := by decide +kernel
theorem dc_jdk_42_method_149_code_54 : decode jdk_42_method_149_code 54 = .ok (.putfield 9, 3) := by decide +kernel
theorem dc_jdk_42_method_149_code_57 : decode jdk_42_method_149_code 57 = .ok (.return_, 1) := by decide +kernel
theorem dc_jdk_42_method_3_code_0 : decode jdk_42_method_3_code 0 = .ok (.aload_n 0, 1) := by decide +kernel
theorem dc_jdk_42_method_3_code_1 : decode jdk_42_method_3_code 1 = .ok (.aload_n 1, 1) := by decide +kernel
theorem dc_jdk_42_method_3_code_2 : decode jdk_42_method_3_code 2 = .ok (.iconst 0, 1) := by decide +kernel
theorem dc_jdk_42_method_3_code_3 : decode jdk_42_method_3_code 3 = .ok (.aload_n 1, 1) := by decide +kernel
theorem dc_jdk_42_method_3_code_4 : decode jdk_42_method_3_code 4 = .ok (.arraylength, 1) := by decide +kernel
theorem dc_jdk_42_method_3_code_5 : decode jdk_42_method_3_code 5 = .ok (.aconst_null, 1) := by decide +kernel
theorem dc_jdk_42_method_3_code_6 : decode jdk_42_method_3_code 6 = .ok (.invokespecial 27, 3) := by decide +kernel
theorem dc_jdk_42_method_3_code_9 : decode jdk_42_method_3_code 9 = .ok (.return_, 1) := by decide +kernel
theorem dc_jdk_52_method_21_code_41 : decode jdk_52_method_21_code 41 = .ok (.goto (-38), 3) := by decide +kernel
theorem dc_jdk_41_method_11_code_0 : decode jdk_41_method_11_code 0 = .ok (.iload_n 0, 1) := by decide +kernel
theorem dc_jdk_41_method_11_code_1 : decode jdk_41_method_11_code 1 = .ok (.ifCond .lt 8, 3) := by decide +kernel
theorem dc_jdk_41_method_11_code_4 : decode jdk_41_method_11_code 4 = .ok (.iload_n 0, 1) := by decide +kernel
theorem dc_jdk_41_method_11_code_5 : decode jdk_41_method_11_code 5 = .ok (.iload_n 1, 1) := by decide +kernel
theorem dc_jdk_41_method_11_code_6 : decode jdk_41_method_11_code 6 = .ok (.if_icmp .lt 10, 3) := by decide +kernel
theorem dc_jdk_41_method_11_code_16 : decode jdk_41_method_11_code 16 = .ok (.iload_n 0, 1) := by decide +kernel
theorem dc_jdk_41_method_11_code_17 : decode jdk_41_method_11_code 17 = .ok (.ireturn, 1) := by decide +kernel
theorem dc_jdk_42_method_155_code_0 : decode jdk_42_method_155_code 0 = .ok (.iload_n 0, 1) := by decide +kernel
theorem dc_jdk_42_method_155_code_1 : decode jdk_42_method_155_code 1 = .ok (.iload_n 1, 1) := by decide +kernel
theorem dc_jdk_42_method_155_code_2 : decode jdk_42_method_155_code 2 = .ok (.getstatic 1053, 3) := by decide +kernel
theorem dc_jdk_42_method_155_code_5 : decode jdk_42_method_155_code 5 = .ok (.invokestatic 1059, 3) := by decide +kernel
theorem dc_jdk_42_method_155_code_8 : decode jdk_42_method_155_code 8 = .ok (.pop, 1) := by decide +kernel
theorem dc_jdk_42_method_155_code_9 : decode jdk_42_method_155_code 9 = .ok (.return_, 1) := by decide +kernel
theorem dc_jdk_42_method_154_code_0 : decode jdk_42_method_154_code 0 = .ok (.getstatic 38, 3) := by decide +kernel
theorem dc_jdk_42_method_154_code_3 : decode jdk_42_method_154_code 3 = .ok (.ifCond .eq 14, 3) := by decide +kernel
theorem dc_jdk_42_method_154_code_6 : decode jdk_42_method_154_code 6 = .ok (.aload_n 0, 1) := by decide +kernel
theorem dc_jdk_42_method_154_code_7 : decode jdk_42_method_154_code 7 = .ok (.getfield 15, 3) := by decide +kernel
theorem dc_jdk_42_method_154_code_10 : decode jdk_42_method_154_code 10 = .ok (.ifCond .ne 7, 3) := by decide +kernel
theorem dc_jdk_42_method_154_code_17 : decode jdk_42_method_154_code 17 = .ok (.iconst 0, 1) := by decide +kernel
theorem dc_jdk_42_method_154_code_18 : decode jdk_42_method_154_code 18 = .ok (.ireturn, 1) := by decide +kernel
theorem dc_jdk_52_method_6_code_0 : decode jdk_52_method_6_code 0 = .ok (.aload_n 0, 1) := by decide +kernel
theorem dc_jdk_52_method_6_code_1 : decode jdk_52_method_6_code 1 = .ok (.arraylength, 1) := by decide +kernel
theorem dc_jdk_52_method_6_code_2 : decode jdk_52_method_6_code 2 = .ok (.iconst 1, 1) := by decide +kernel
theorem dc_jdk_52_method_6_code_3 : decode jdk_52_method_6_code 3 = .ok (.ishr, 1) := by decide +kernel
theorem dc_jdk_52_method_6_code_4 : decode jdk_52_method_6_code 4 = .ok (.ireturn, 1) := by decide +kernel
theorem dc_jdk_52_method_91_code_0 : decode jdk_52_method_91_code 0 = .ok (.iload_n 0, 1) := by decide +kernel
theorem dc_jdk_52_method_91_code_1 : decode jdk_52_method_91_code 1 = .ok (.aload_n 1, 1) := by decide +kernel
theorem dc_jdk_52_method_91_code_2 : decode jdk_52_method_91_code 2 = .ok (.invokestatic 48, 3) := by decide +kernel
theorem dc_jdk_52_method_91_code_5 : decode jdk_52_method_91_code 5 = .ok (.invokestatic 414, 3) := by decide +kernel
theorem dc_jdk_52_method_91_code_8 : decode jdk_52_method_91_code 8 = .ok (.return_, 1) := by decide +kernel
theorem dc_jdk_52_method_83_code_0 : decode jdk_52_method_83_code 0 = .ok (.iload_n 1, 1) := by decide +kernel
theorem dc_jdk_52_method_83_code_1 : decode jdk_52_method_83_code 1 = .ok (.aload_n 0, 1) := by decide +kernel
theorem dc_jdk_52_method_83_code_2 : decode jdk_52_method_83_code 2 = .ok (.invokestatic 67, 3) := by decide +kernel
theorem dc_jdk_52_method_83_code_5 : decode jdk_52_method_83_code 5 = .ok (.aload_n 0, 1) := by decide +kernel
theorem dc_jdk_52_method_83_code_6 : decode jdk_52_method_83_code 6 = .ok (.iload_n 1, 1) := by decide +kernel
theorem dc_jdk_52_method_83_code_7 : decode jdk_52_method_83_code 7 = .ok (.invokestatic 71, 3) := by decide +kernel
theorem dc_jdk_52_method_83_code_10 : decode jdk_52_method_83_code 10 = .ok (.ireturn, 1) := by decide +kernel
theorem dc_jdk_42_method_56_code_0 : decode jdk_42_method_56_code 0 = .ok (.aload_n 0, 1) := by decide +kernel
theorem dc_jdk_42_method_56_code_1 : decode jdk_42_method_56_code 1 = .ok (.invokevirtual 492, 3) := by decide +kernel
theorem dc_jdk_42_method_56_code_4 : decode jdk_42_method_56_code 4 = .ok (.ifCond .eq 12, 3) := by decide +kernel
theorem dc_jdk_42_method_56_code_16 : decode jdk_42_method_56_code 16 = .ok (.aload_n 0, 1) := by decide +kernel
theorem dc_jdk_42_method_56_code_17 : decode jdk_42_method_56_code 17 = .ok (.getfield 9, 3) := by decide +kernel
theorem dc_jdk_42_method_56_code_20 : decode jdk_42_method_56_code 20 = .ok (.iload_n 1, 1) := by decide +kernel
theorem dc_jdk_42_method_56_code_21 : decode jdk_42_method_56_code 21 = .ok (.invokestatic 498, 3) := by decide +kernel
theorem dc_jdk_42_method_56_code_24 : decode jdk_42_method_56_code 24 = .ok (.ireturn, 1) := by decide +kernel
theorem dc_jdk_31_method_11_code_0 : decode jdk_31_method_11_code 0 = .ok (.aload_n 0, 1) := by decide +kernel
theorem dc_jdk_31_method_11_code_1 : decode jdk_31_method_11_code 1 = .ok (.ifnonnull 12, 3) := by decide +kernel
theorem dc_jdk_31_method_11_code_13 : decode jdk_31_method_11_code 13 = .ok (.aload_n 0, 1) := by decide +kernel
theorem dc_jdk_31_method_11_code_14 : decode jdk_31_method_11_code 14 = .ok (.areturn, 1) := by decide +kernel
theorem dc_jdk_42_method_55_code_0 : decode jdk_42_method_55_code 0 = .ok (.aload_n 0, 1) := by decide +kernel
theorem dc_jdk_42_method_55_code_1 : decode jdk_42_method_55_code 1 = .ok (.getfield 9, 3) := by decide +kernel
theorem dc_jdk_42_method_55_code_4 : decode jdk_42_method_55_code 4 = .ok (.arraylength, 1) := by decide +kernel
theorem dc_jdk_42_method_55_code_5 : decode jdk_42_method_55_code 5 = .ok (.ifCond .ne 7, 3) := by decide +kernel
theorem dc_jdk_42_method_55_code_12 : decode jdk_42_method_55_code 12 = .ok (.iconst 0, 1) := by decide +kernel
theorem dc_jdk_42_method_55_code_13 : decode jdk_42_method_55_code 13 = .ok (.ireturn, 1) := by decide +kernel
theorem dc_prog_16_method_3_code_0 : decode prog_16_method_3_code 0 = .ok (.aload_n 0, 1) := by decide +kernel
theorem dc_prog_16_method_3_code_1 : decode prog_16_method_3_code 1 = .ok (.ldc 96, 2) := by decide +kernel
theorem dc_prog_16_method_3_code_3 : decode prog_16_method_3_code 3 = .ok (.invokestatic 9, 3) := by decide +kernel
theorem dc_prog_16_method_3_code_6 : decode prog_16_method_3_code 6 = .ok (.checkcast 77, 3) := by decide +kernel
theorem dc_prog_16_method_3_code_9 : decode prog_16_method_3_code 9 = .ok (.invokevirtual 98, 3) := by decide +kernel
theorem dc_prog_16_method_3_code_12 : decode prog_16_method_3_code 12 = .ok (.ifCond .eq 13, 3) := by decide +kernel
theorem dc_prog_16_method_3_code_25 : decode prog_16_method_3_code 25 = .ok (.aload_n 0, 1) := by decide +kernel
theorem dc_prog_16_method_3_code_26 : decode prog_16_method_3_code 26 = .ok (.areturn, 1) := by decide +kernel
theorem pd_0 : parseMethodDescriptor "(I)I" = some ⟨[.int], some .int⟩ := by decide +kernel
theorem pd_1 : parseMethodDescriptor "(I)[B" = some ⟨[.int], some (.array .byte)⟩ := by decide +kernel
theorem pd_2 : parseMethodDescriptor "([BII)V" = some ⟨[(.array .byte), .int, .int], none⟩ := by decide +kernel
theorem pd_3 : parseMethodDescriptor "([CI[BII)I" = some ⟨[(.array .char), .int, (.array .byte), .int, .int], some .int⟩ := by decide +kernel
theorem pd_4 : parseMethodDescriptor "([CII)[B" = some ⟨[(.array .char), .int, .int], some (.array .byte)⟩ := by decide +kernel
theorem pd_5 : parseMethodDescriptor "([BI)C" = some ⟨[(.array .byte), .int], some .char⟩ := by decide +kernel
theorem pd_6 : parseMethodDescriptor "([BI)B" = some ⟨[(.array .byte), .int], some .byte⟩ := by decide +kernel
theorem pd_7 : parseMethodDescriptor "([CIILjava/lang/Void;)V" = some ⟨[(.array .char), .int, .int, (.object "java/lang/Void")], none⟩ := by decide +kernel
theorem pd_8 : parseMethodDescriptor "(IILjava/util/function/BiFunction;)I" = some ⟨[.int, .int, (.object "java/util/function/BiFunction")], some .int⟩ := by decide +kernel
theorem pd_9 : parseMethodDescriptor "([B)I" = some ⟨[(.array .byte)], some .int⟩ := by decide +kernel
theorem pd_10 : parseMethodDescriptor "(II)V" = some ⟨[.int, .int], none⟩ := by decide +kernel
theorem pd_11 : parseMethodDescriptor "(I[B)V" = some ⟨[.int, (.array .byte)], none⟩ := by decide +kernel
theorem pd_12 : parseMethodDescriptor "()Z" = some ⟨[], some .boolean⟩ := by decide +kernel
theorem pd_13 : parseMethodDescriptor "(Ljava/lang/Object;Ljava/lang/String;)Ljava/lang/Object;" = some ⟨[(.object "java/lang/Object"), (.object "java/lang/String")], some (.object "java/lang/Object")⟩ := by decide +kernel
theorem pd_14 : parseMethodDescriptor "([C)V" = some ⟨[(.array .char)], none⟩ := by decide +kernel
theorem pd_15 : parseMethodDescriptor "(Ljava/lang/String;)Ljava/lang/String;" = some ⟨[(.object "java/lang/String")], some (.object "java/lang/String")⟩ := by decide +kernel
theorem pd_16 : parseMethodDescriptor "(I)C" = some ⟨[.int], some .char⟩ := by decide +kernel
theorem pn_0 : plainName "java/lang/StringUTF16" = true := by first | (simp [plainName, overriddenIn]; done) | decide +kernel
theorem pn_1 : plainName "java/lang/String" = true := by first | (simp [plainName, overriddenIn]; done) | decide +kernel
theorem pn_2 : plainName "jdk/internal/util/Preconditions" = true := by first | (simp [plainName, overriddenIn]; done) | decide +kernel
theorem pn_3 : plainName "java/util/Objects" = true := by first | (simp [plainName, overriddenIn]; done) | decide +kernel
theorem pn_4 : plainName "com/example/admit/admit/model/AclEntry" = true := by first | (simp [plainName, overriddenIn]; done) | decide +kernel
theorem pn_5 : plainName "com/example/admit/admit/model/AclEntryRequirePrivilegeNamePinLaw" = true := by first | (simp [plainName, overriddenIn]; done) | decide +kernel
theorem Wk.safeN {p : Program} {l : Launch} {e : Env} {R : Room} {s : State} {m : MethodId} {args : Array Value} {below : List Frame} {meth : Method} {c : Code} {Z : State} {a0 : Array Value} {own : String} {sf : List Addr} {T : State} {h : Heap} {k n : Nat} {x : Addr} (W : Wk p l e R s m args below meth c Z a0 [] own sf T h k n) (hx : x < h.size) : Wk p l e R s m args below meth c Z a0 [] own (x :: sf) T h k n := by
  obtain ⟨w1, w2, w3, w4, vm0, k0, L, X, r1, r2, r3, r4, r5, r6, r7, r8⟩ := W
  exact ⟨w1, w2, w3, w4, vm0, k0, L, X, r1, r2, r3, r4, r5, r6, fun y hy => by
    rcases List.mem_cons.mp hy with rfl | hy
    · exact ⟨hx, fun ⟨p, hp, _⟩ => by cases hp⟩
    · exact r7 y hy, r8⟩

set_option maxRecDepth 65536 in
set_option maxHeartbeats 40000000 in
theorem c_nbl1 (l : Launch) (Z : State) (a0 : Array Value) (hw : ∀ d ∈ tables_1, d.before a0 Z = true) (hEL : EW Z a0 []) (h0 : Heap) (hE0 : Ext Z.heap h0)   :
    Con l Z [] [] (⟨"java/lang/StringUTF16", "newBytesLength", "(I)I"⟩ : MethodName) jdk_52_method_3_code 1 (some .int) [] ({ frames := 0, cells := 0, slots := 0, locals := 0 } : Room) #[(.int (1 : Int32))] h0 (fun v h' => v = (some (.int (2 : Int32))) ∧ h' = h0) := by
  refine Con.mk (plainFor_of_name pn_0) hEL hE0 (fun x hx => by cases hx) ?_
  intro p e s m below meth c T0 hby hml hret hnm W0
  rw [(show entryFrame m #[(.int (1 : Int32))] 1 = mkF m 0 #[.val (.int (1 : Int32))] [] from by first | (simp [entryFrame, mkF, argsToLocals, Value.category]; done) | rfl)]
  refine Go.by (fun t9_ q9_ => XS.iloadN W0.here W0.hx rfl (hb hby dc_jdk_52_method_3_code_0) rfl q9_) ?_
  show Go p e below s Z [] _ _ _ (T0.setTop (mkF m 1 #[.val (.int (1 : Int32))] [(.int (1 : Int32))]))
  refine Go.by (fun t9_ q9_ => XS.ifYes W0.here W0.hx rfl (pc0 := 1) (pc' := 12) rfl (hb hby dc_jdk_52_method_3_code_1) rfl ((if0 _ _).trans (flt (by decide)).2.1) (by decide) (by decide) q9_) ?_
  show Go p e below s Z [] _ _ _ (T0.setTop (mkF m 12 #[.val (.int (1 : Int32))] []))
  refine Go.by (fun t9_ q9_ => XS.iloadN W0.here W0.hx rfl (hb hby dc_jdk_52_method_3_code_12) rfl q9_) ?_
  show Go p e below s Z [] _ _ _ (T0.setTop (mkF m 13 #[.val (.int (1 : Int32))] [(.int (1 : Int32))]))
  refine W0.ldcI (wd88 hw) (hb hby dc_jdk_52_method_3_code_13) ?_
  show Go p e below s Z [] _ _ _ (T0.setTop (mkF m 15 #[.val (.int (1 : Int32))] [(.int (1073741823 : Int32)), (.int (1 : Int32))]))
  refine Go.by (fun t9_ q9_ => XS.icmpYes W0.here W0.hx rfl (pc0 := 15) (pc' := 55) rfl (hb hby dc_jdk_52_method_3_code_15) rfl (tlt (by decide)).1 (by decide) (by decide) q9_) ?_
  show Go p e below s Z [] _ _ _ (T0.setTop (mkF m 55 #[.val (.int (1 : Int32))] []))
  refine Go.by (fun t9_ q9_ => XS.iloadN W0.here W0.hx rfl (hb hby dc_jdk_52_method_3_code_55) rfl (XS.iconst W0.here W0.hx rfl (hb hby dc_jdk_52_method_3_code_56) (XS.ishl W0.here W0.hx rfl (hb hby dc_jdk_52_method_3_code_57) rfl q9_))) ?_
  show Go p e below s Z [] _ _ _ (T0.setTop (mkF m 58 #[.val (.int (1 : Int32))] [(.int ((1 : Int32) <<< ((1 : Int32) &&& 31)))]))
  rw [show ((1 : Int32) <<< ((1 : Int32) &&& 31)) = (2 : Int32) from by decide]
  show Go p e below s Z [] _ _ _ (T0.setTop (mkF m 58 #[.val (.int (1 : Int32))] [(.int (2 : Int32))]))
  exact W0.retI (by decide) (by decide) hret (hb hby dc_jdk_52_method_3_code_58) ⟨rfl, rfl⟩
set_option maxRecDepth 65536 in
set_option maxHeartbeats 40000000 in
theorem c_nbf1 (l : Launch) (Z : State) (a0 : Array Value) (hw : ∀ d ∈ tables_1, d.before a0 Z = true) (hEL : EW Z a0 []) (h0 : Heap) (hE0 : Ext Z.heap h0)   :
    Con l Z [] [] (⟨"java/lang/StringUTF16", "newBytesFor", "(I)[B"⟩ : MethodName) jdk_52_method_2_code 1 (some (.array .byte)) [] ({ frames := 1, cells := 1, slots := 2, locals := 12 } : Room) #[(.int (1 : Int32))] h0 (fun v h' => ∃ ta kt, v = some (.ref ta) ∧ Ext h0 h' ∧ Z.heap.size ≤ ta ∧ h0.size = ta ∧ Exa Z h' ta "[B" ∧ Arv Z h' ta kt .byte (2 : Int32) [(.int (0 : Int32)), (.int (0 : Int32))] (.int (0 : Int32))) := by
  refine Con.mk (plainFor_of_name pn_0) hEL hE0 (fun x hx => by cases hx) ?_
  intro p e s m below meth c T0 hby hml hret hnm W0
  rw [(show entryFrame m #[(.int (1 : Int32))] 1 = mkF m 0 #[.val (.int (1 : Int32))] [] from by first | (simp [entryFrame, mkF, argsToLocals, Value.category]; done) | rfl)]
  refine Go.by (fun t9_ q9_ => XS.iloadN W0.here W0.hx rfl (hb hby dc_jdk_52_method_2_code_0) rfl q9_) ?_
  show Go p e below s Z [] _ _ _ (T0.setTop (mkF m 1 #[.val (.int (1 : Int32))] [(.int (1 : Int32))]))
  refine W0.callSp (y := (⟨"java/lang/StringUTF16", "newBytesLength", "(I)I"⟩ : MethodName)) (wd85 hw) (wd86 hw) (wd17 hw) (wd87 hw) (by decide) (c_nbl1 l Z a0 hw hEL h0 hE0) all0 (by decide) (by decide) (k' := 0) (n' := 0) rfl rfl (by decide) (by decide) (by rw [hml]; rfl) (argsL := [(.int (1 : Int32))]) (rest := []) (lenOf pd_0 rfl) rfl rfl (Wt := 0) (Nat.le_of_eq rfl) (hb hby dc_jdk_52_method_2_code_1) ?_
  intro T1 W2
  show Go p e below s Z [] _ _ _ (T1.setTop (mkF m 4 #[.val (.int (1 : Int32))] [(.int (2 : Int32))]))
  refine W2.newp (aty := .byte) (wd19 hw) (hb hby dc_jdk_52_method_2_code_4) (by decide) (cap := 2) (by decide) (by decide) (k' := 1) (n' := 2) rfl rfl (by decide) (by decide) (ad := "[B") rfl ?_
  intro T3 h4 ta k_ta W5 E6 g_ta z_ta A_ta V_ta
  have V1_ta : Arv Z h4 ta k_ta .byte (2 : Int32) [(.int (0 : Int32)), (.int (0 : Int32))] (.int (0 : Int32)) := V_ta.pad (pad_rep [] (.int (0 : Int32)) 2)
  show Go p e below s Z [] _ _ _ (T3.setTop (mkF m 6 #[.val (.int (1 : Int32))] [(.ref ta)]))
  exact W5.retA (by decide) (by decide) hret rfl rfl (hb hby dc_jdk_52_method_2_code_6) ⟨ta, k_ta, rfl, E6, z_ta, g_ta, A_ta, V1_ta⟩
set_option maxRecDepth 65536 in
set_option maxHeartbeats 40000000 in
theorem c_put1_0 (l : Launch) (Z : State) (a0 : Array Value) (hw : ∀ d ∈ tables_1, d.before a0 Z = true) (hEL : EW Z a0 []) (h0 : Heap) (hE0 : Ext Z.heap h0) (ta : Addr) (k_ta : ClassId) (b0 b1 : Value) (cc : Int32) (SAD : Sta Z Z.heap "java/lang/StringUTF16" "$assertionsDisabled" "Z" (.int 1)) (SHI : Sta Z Z.heap "java/lang/StringUTF16" "HI_BYTE_SHIFT" "I" (.int 0)) (SLO : Sta Z Z.heap "java/lang/StringUTF16" "LO_BYTE_SHIFT" "I" (.int 8)) (A_t : Arv Z h0 ta k_ta .byte (2 : Int32) [b0, b1] (.int (0 : Int32))) (z_ta : Z.heap.size ≤ ta) :
    Con l Z [] [ta] (⟨"java/lang/StringUTF16", "putChar", "([BII)V"⟩ : MethodName) jdk_52_method_4_code 3 none [] ({ frames := 0, cells := 0, slots := 0, locals := 0 } : Room) #[(.ref ta), (.int (0 : Int32)), (.int cc)] h0 (fun v h' => v = none ∧ Keep h0 h' [ta] ∧ Arv Z h' ta k_ta .byte (2 : Int32) [(.int (StrChars.lo8 cc)), (.int (StrChars.hi8 cc))] (.int (0 : Int32))) := by
  refine Con.mk (plainFor_of_name pn_0) hEL hE0 (allS A_t.lt all0) ?_
  intro p e s m below meth c T0 hby hml hret hnm W0
  rw [(show entryFrame m #[(.ref ta), (.int (0 : Int32)), (.int cc)] 3 = mkF m 0 #[.val (.ref ta), .val (.int (0 : Int32)), .val (.int cc)] [] from by first | (simp [entryFrame, mkF, argsToLocals, Value.category]; done) | rfl)]
  refine W0.gets (host := "") (Or.inl (wd92 hw)) Via.refl (SAD.ext W0.old) (hb hby dc_jdk_52_method_4_code_0) ?_
  intro T7 W8
  show Go p e below s Z [] _ _ _ (T7.setTop (mkF m 3 #[.val (.ref ta), .val (.int (0 : Int32)), .val (.int cc)] [(.int (1 : Int32))]))
  refine Go.by (fun t9_ q9_ => XS.ifYes W8.here W8.hx rfl (pc0 := 3) (pc' := 28) rfl (hb hby dc_jdk_52_method_4_code_3) rfl ((if0 _ _).trans (feq (by decide)).2) (by decide) (by decide) q9_) ?_
  show Go p e below s Z [] _ _ _ (T7.setTop (mkF m 28 #[.val (.ref ta), .val (.int (0 : Int32)), .val (.int cc)] []))
  refine Go.by (fun t9_ q9_ => XS.iloadN W8.here W8.hx rfl (hb hby dc_jdk_52_method_4_code_28) rfl (XS.iconst W8.here W8.hx rfl (hb hby dc_jdk_52_method_4_code_29) (XS.ishl W8.here W8.hx rfl (hb hby dc_jdk_52_method_4_code_30) rfl (XS.istoreN W8.here W8.hx rfl (hb hby dc_jdk_52_method_4_code_31) rfl (l' := #[.val (.ref ta), .val (.int ((0 : Int32) <<< ((1 : Int32) &&& 31))), .val (.int cc)]) rfl q9_)))) ?_
  show Go p e below s Z [] _ _ _ (T7.setTop (mkF m 32 #[.val (.ref ta), .val (.int ((0 : Int32) <<< ((1 : Int32) &&& 31))), .val (.int cc)] []))
  rw [show ((0 : Int32) <<< ((1 : Int32) &&& 31)) = (0 : Int32) from by decide]
  show Go p e below s Z [] _ _ _ (T7.setTop (mkF m 32 #[.val (.ref ta), .val (.int (0 : Int32)), .val (.int cc)] []))
  refine Go.by (fun t9_ q9_ => XS.aloadN W8.here W8.hx rfl (hb hby dc_jdk_52_method_4_code_32) rfl rfl (XS.iloadN W8.here W8.hx rfl (hb hby dc_jdk_52_method_4_code_33) rfl (XS.iinc W8.here W8.hx rfl (hb hby dc_jdk_52_method_4_code_34) rfl (l' := #[.val (.ref ta), .val (.int ((0 : Int32) + (1 : Int32))), .val (.int cc)]) rfl q9_))) ?_
  show Go p e below s Z [] _ _ _ (T7.setTop (mkF m 37 #[.val (.ref ta), .val (.int ((0 : Int32) + (1 : Int32))), .val (.int cc)] [(.int (0 : Int32)), (.ref ta)]))
  show Go p e below s Z [] _ _ _ (T7.setTop (mkF m 37 #[.val (.ref ta), .val (.int (1 : Int32)), .val (.int cc)] [(.int (0 : Int32)), (.ref ta)]))
  refine Go.by (fun t9_ q9_ => XS.iloadN W8.here W8.hx rfl (hb hby dc_jdk_52_method_4_code_37) rfl q9_) ?_
  show Go p e below s Z [] _ _ _ (T7.setTop (mkF m 38 #[.val (.ref ta), .val (.int (1 : Int32)), .val (.int cc)] [(.int cc), (.int (0 : Int32)), (.ref ta)]))
  refine W8.gets (host := "") (Or.inl (wd93 hw)) Via.refl (SHI.ext W8.old) (hb hby dc_jdk_52_method_4_code_38) ?_
  intro T9 W10
  show Go p e below s Z [] _ _ _ (T9.setTop (mkF m 41 #[.val (.ref ta), .val (.int (1 : Int32)), .val (.int cc)] [(.int (0 : Int32)), (.int cc), (.int (0 : Int32)), (.ref ta)]))
  refine Go.by (fun t9_ q9_ => XS.ishr W10.here W10.hx rfl (hb hby dc_jdk_52_method_4_code_41) rfl (XS.i2b W10.here W10.hx rfl (hb hby dc_jdk_52_method_4_code_42) rfl q9_)) ?_
  show Go p e below s Z [] _ _ _ (T9.setTop (mkF m 43 #[.val (.ref ta), .val (.int (1 : Int32)), .val (.int cc)] [(.int ((cc >>> ((0 : Int32) &&& 31)).toInt8.toInt32)), (.int (0 : Int32)), (.ref ta)]))
  refine W10.bast A_t ⟨by decide, by decide⟩ (i := 0) rfl (by simp) (v' := (StrChars.lo8 cc)) (by rw [StrChars.shr0]; simp [nar, StrChars.lo8, lo8_lo8]) z_ta (List.mem_of_getElem? (i := 0) rfl) (hb hby dc_jdk_52_method_4_code_43) ?_
  intro T11 h12 W13 Wr14 V15_ta'
  have V15_ta : Arv Z h12 ta k_ta .byte (2 : Int32) [(.int (StrChars.lo8 cc)), b1] (.int (0 : Int32)) := V15_ta'
  show Go p e below s Z [] _ _ _ (T11.setTop (mkF m 44 #[.val (.ref ta), .val (.int (1 : Int32)), .val (.int cc)] []))
  refine Go.by (fun t9_ q9_ => XS.aloadN W13.here W13.hx rfl (hb hby dc_jdk_52_method_4_code_44) rfl rfl (XS.iloadN W13.here W13.hx rfl (hb hby dc_jdk_52_method_4_code_45) rfl (XS.iloadN W13.here W13.hx rfl (hb hby dc_jdk_52_method_4_code_46) rfl q9_))) ?_
  show Go p e below s Z [] _ _ _ (T11.setTop (mkF m 47 #[.val (.ref ta), .val (.int (1 : Int32)), .val (.int cc)] [(.int cc), (.int (1 : Int32)), (.ref ta)]))
  refine W13.gets (host := "") (Or.inl (wd94 hw)) Via.refl (SLO.ext W13.old) (hb hby dc_jdk_52_method_4_code_47) ?_
  intro T16 W17
  show Go p e below s Z [] _ _ _ (T16.setTop (mkF m 50 #[.val (.ref ta), .val (.int (1 : Int32)), .val (.int cc)] [(.int (8 : Int32)), (.int cc), (.int (1 : Int32)), (.ref ta)]))
  refine Go.by (fun t9_ q9_ => XS.ishr W17.here W17.hx rfl (hb hby dc_jdk_52_method_4_code_50) rfl (XS.i2b W17.here W17.hx rfl (hb hby dc_jdk_52_method_4_code_51) rfl q9_)) ?_
  show Go p e below s Z [] _ _ _ (T16.setTop (mkF m 52 #[.val (.ref ta), .val (.int (1 : Int32)), .val (.int cc)] [(.int ((cc >>> ((8 : Int32) &&& 31)).toInt8.toInt32)), (.int (1 : Int32)), (.ref ta)]))
  refine W17.bast V15_ta ⟨by decide, by decide⟩ (i := 1) rfl (by simp) (v' := (StrChars.hi8 cc)) (by simp [nar, StrChars.hi8, StrChars.lo8, lo8_lo8]) z_ta (List.mem_of_getElem? (i := 0) rfl) (hb hby dc_jdk_52_method_4_code_52) ?_
  intro T18 h19 W20 Wr21 V22_ta'
  have V22_ta : Arv Z h19 ta k_ta .byte (2 : Int32) [(.int (StrChars.lo8 cc)), (.int (StrChars.hi8 cc))] (.int (0 : Int32)) := V22_ta'
  show Go p e below s Z [] _ _ _ (T18.setTop (mkF m 53 #[.val (.ref ta), .val (.int (1 : Int32)), .val (.int cc)] []))
  exact W20.retV (by decide) (by decide) hret (hb hby dc_jdk_52_method_4_code_53) ⟨rfl, (((Keep.refl h0 [ta]).wr Wr14 (Or.inl (List.mem_of_getElem? (i := 0) rfl))).wr Wr21 (Or.inl (List.mem_of_getElem? (i := 0) rfl))), V22_ta⟩
set_option maxRecDepth 65536 in
set_option maxHeartbeats 40000000 in
theorem c_get1_0 (l : Launch) (Z : State) (a0 : Array Value) (hw : ∀ d ∈ tables_1, d.before a0 Z = true) (hEL : EW Z a0 []) (h0 : Heap) (hE0 : Ext Z.heap h0) (ta : Addr) (k_ta : ClassId) (vs : List Value) (uu vv cc : Int32) (SAD : Sta Z Z.heap "java/lang/StringUTF16" "$assertionsDisabled" "Z" (.int 1)) (SHI : Sta Z Z.heap "java/lang/StringUTF16" "HI_BYTE_SHIFT" "I" (.int 0)) (SLO : Sta Z Z.heap "java/lang/StringUTF16" "LO_BYTE_SHIFT" "I" (.int 8)) (A_t : Arv Z h0 ta k_ta .byte (2 : Int32) vs (.int (0 : Int32))) (hu : vs.getD 0 (.int (0 : Int32)) = .int uu) (hv : vs.getD 1 (.int (0 : Int32)) = .int vv) (hp : StrChars.pairCh uu vv = cc) (r_c : ¬ cc < 0 ∧ ¬ (65535 : Int32) < cc) :
    Con l Z [] [] (⟨"java/lang/StringUTF16", "getChar", "([BI)C"⟩ : MethodName) jdk_52_method_5_code 2 (some .char) [] ({ frames := 0, cells := 0, slots := 0, locals := 0 } : Room) #[(.ref ta), (.int (0 : Int32))] h0 (fun v h' => v = (some (.int cc)) ∧ h' = h0) := by
  refine Con.mk (plainFor_of_name pn_0) hEL hE0 (fun x hx => by cases hx) ?_
  intro p e s m below meth c T0 hby hml hret hnm W0
  rw [(show entryFrame m #[(.ref ta), (.int (0 : Int32))] 2 = mkF m 0 #[.val (.ref ta), .val (.int (0 : Int32))] [] from by first | (simp [entryFrame, mkF, argsToLocals, Value.category]; done) | rfl)]
  refine W0.gets (host := "") (Or.inl (wd92 hw)) Via.refl (SAD.ext W0.old) (hb hby dc_jdk_52_method_5_code_0) ?_
  intro T23 W24
  show Go p e below s Z [] _ _ _ (T23.setTop (mkF m 3 #[.val (.ref ta), .val (.int (0 : Int32))] [(.int (1 : Int32))]))
  refine Go.by (fun t9_ q9_ => XS.ifYes W24.here W24.hx rfl (pc0 := 3) (pc' := 28) rfl (hb hby dc_jdk_52_method_5_code_3) rfl ((if0 _ _).trans (feq (by decide)).2) (by decide) (by decide) q9_) ?_
  show Go p e below s Z [] _ _ _ (T23.setTop (mkF m 28 #[.val (.ref ta), .val (.int (0 : Int32))] []))
  refine Go.by (fun t9_ q9_ => XS.iloadN W24.here W24.hx rfl (hb hby dc_jdk_52_method_5_code_28) rfl (XS.iconst W24.here W24.hx rfl (hb hby dc_jdk_52_method_5_code_29) (XS.ishl W24.here W24.hx rfl (hb hby dc_jdk_52_method_5_code_30) rfl (XS.istoreN W24.here W24.hx rfl (hb hby dc_jdk_52_method_5_code_31) rfl (l' := #[.val (.ref ta), .val (.int ((0 : Int32) <<< ((1 : Int32) &&& 31)))]) rfl q9_)))) ?_
  show Go p e below s Z [] _ _ _ (T23.setTop (mkF m 32 #[.val (.ref ta), .val (.int ((0 : Int32) <<< ((1 : Int32) &&& 31)))] []))
  rw [show ((0 : Int32) <<< ((1 : Int32) &&& 31)) = (0 : Int32) from by decide]
  show Go p e below s Z [] _ _ _ (T23.setTop (mkF m 32 #[.val (.ref ta), .val (.int (0 : Int32))] []))
  refine Go.by (fun t9_ q9_ => XS.aloadN W24.here W24.hx rfl (hb hby dc_jdk_52_method_5_code_32) rfl rfl (XS.iloadN W24.here W24.hx rfl (hb hby dc_jdk_52_method_5_code_33) rfl (XS.iinc W24.here W24.hx rfl (hb hby dc_jdk_52_method_5_code_34) rfl (l' := #[.val (.ref ta), .val (.int ((0 : Int32) + (1 : Int32)))]) rfl q9_))) ?_
  show Go p e below s Z [] _ _ _ (T23.setTop (mkF m 37 #[.val (.ref ta), .val (.int ((0 : Int32) + (1 : Int32)))] [(.int (0 : Int32)), (.ref ta)]))
  show Go p e below s Z [] _ _ _ (T23.setTop (mkF m 37 #[.val (.ref ta), .val (.int (1 : Int32))] [(.int (0 : Int32)), (.ref ta)]))
  refine W24.bald A_t ⟨by decide, by decide⟩ (v := (.int uu)) hu (hb hby dc_jdk_52_method_5_code_37) ?_
  show Go p e below s Z [] _ _ _ (T23.setTop (mkF m 38 #[.val (.ref ta), .val (.int (1 : Int32))] [(.int uu)]))
  refine Go.by (fun t9_ q9_ => XS.sipush W24.here W24.hx rfl (hb hby dc_jdk_52_method_5_code_38) (XS.iand W24.here W24.hx rfl (hb hby dc_jdk_52_method_5_code_41) rfl q9_)) ?_
  show Go p e below s Z [] _ _ _ (T23.setTop (mkF m 42 #[.val (.ref ta), .val (.int (1 : Int32))] [(.int (uu &&& (255 : Int32)))]))
  refine W24.gets (host := "") (Or.inl (wd93 hw)) Via.refl (SHI.ext W24.old) (hb hby dc_jdk_52_method_5_code_42) ?_
  intro T25 W26
  show Go p e below s Z [] _ _ _ (T25.setTop (mkF m 45 #[.val (.ref ta), .val (.int (1 : Int32))] [(.int (0 : Int32)), (.int (uu &&& (255 : Int32)))]))
  refine Go.by (fun t9_ q9_ => XS.ishl W26.here W26.hx rfl (hb hby dc_jdk_52_method_5_code_45) rfl (XS.aloadN W26.here W26.hx rfl (hb hby dc_jdk_52_method_5_code_46) rfl rfl (XS.iloadN W26.here W26.hx rfl (hb hby dc_jdk_52_method_5_code_47) rfl q9_))) ?_
  show Go p e below s Z [] _ _ _ (T25.setTop (mkF m 48 #[.val (.ref ta), .val (.int (1 : Int32))] [(.int (1 : Int32)), (.ref ta), (.int ((uu &&& (255 : Int32)) <<< ((0 : Int32) &&& 31)))]))
  refine W26.bald A_t ⟨by decide, by decide⟩ (v := (.int vv)) hv (hb hby dc_jdk_52_method_5_code_48) ?_
  show Go p e below s Z [] _ _ _ (T25.setTop (mkF m 49 #[.val (.ref ta), .val (.int (1 : Int32))] [(.int vv), (.int ((uu &&& (255 : Int32)) <<< ((0 : Int32) &&& 31)))]))
  refine Go.by (fun t9_ q9_ => XS.sipush W26.here W26.hx rfl (hb hby dc_jdk_52_method_5_code_49) (XS.iand W26.here W26.hx rfl (hb hby dc_jdk_52_method_5_code_52) rfl q9_)) ?_
  show Go p e below s Z [] _ _ _ (T25.setTop (mkF m 53 #[.val (.ref ta), .val (.int (1 : Int32))] [(.int (vv &&& (255 : Int32))), (.int ((uu &&& (255 : Int32)) <<< ((0 : Int32) &&& 31)))]))
  refine W26.gets (host := "") (Or.inl (wd94 hw)) Via.refl (SLO.ext W26.old) (hb hby dc_jdk_52_method_5_code_53) ?_
  intro T27 W28
  show Go p e below s Z [] _ _ _ (T27.setTop (mkF m 56 #[.val (.ref ta), .val (.int (1 : Int32))] [(.int (8 : Int32)), (.int (vv &&& (255 : Int32))), (.int ((uu &&& (255 : Int32)) <<< ((0 : Int32) &&& 31)))]))
  refine Go.by (fun t9_ q9_ => XS.ishl W28.here W28.hx rfl (hb hby dc_jdk_52_method_5_code_56) rfl (XS.ior W28.here W28.hx rfl (hb hby dc_jdk_52_method_5_code_57) rfl (XS.i2c W28.here W28.hx rfl (hb hby dc_jdk_52_method_5_code_58) rfl q9_))) ?_
  show Go p e below s Z [] _ _ _ (T27.setTop (mkF m 59 #[.val (.ref ta), .val (.int (1 : Int32))] [(.int ((((uu &&& (255 : Int32)) <<< ((0 : Int32) &&& 31)) ||| ((vv &&& (255 : Int32)) <<< ((8 : Int32) &&& 31))).toUInt32.toUInt16.toUInt32.toInt32))]))
  exact W28.retN (z' := cc) (by decide) (by decide) hret (by simp) (hb hby dc_jdk_52_method_5_code_59) (by show nar .char (StrChars.pairCh uu vv) = cc; rw [hp]; exact nar_id r_c) ⟨rfl, rfl⟩
set_option maxRecDepth 65536 in
set_option maxHeartbeats 40000000 in
theorem c_tb1 (l : Launch) (Z : State) (a0 : Array Value) (hw : ∀ d ∈ tables_1, d.before a0 Z = true) (hEL : EW Z a0 []) (h0 : Heap) (hE0 : Ext Z.heap h0) (ba : Addr) (kb : ClassId) (c0 : Int32) (SAD : Sta Z Z.heap "java/lang/StringUTF16" "$assertionsDisabled" "Z" (.int 1)) (SHI : Sta Z Z.heap "java/lang/StringUTF16" "HI_BYTE_SHIFT" "I" (.int 0)) (SLO : Sta Z Z.heap "java/lang/StringUTF16" "LO_BYTE_SHIFT" "I" (.int 8)) (A_b : Arv Z h0 ba kb .char (1 : Int32) [(.int c0)] (.int (0 : Int32))) :
    Con l Z [] [] (⟨"java/lang/StringUTF16", "toBytes", "([CII)[B"⟩ : MethodName) jdk_52_method_14_code 5 (some (.array .byte)) [] ({ frames := 2, cells := 1, slots := 2, locals := 24 } : Room) #[(.ref ba), (.int (0 : Int32)), (.int (1 : Int32))] h0 (fun v h' => ∃ ta kt, v = some (.ref ta) ∧ Ext h0 h' ∧ Exa Z h' ta "[B" ∧ Arv Z h' ta kt .byte (2 : Int32) [(.int (StrChars.lo8 c0)), (.int (StrChars.hi8 c0))] (.int (0 : Int32))) := by
  refine Con.mk (plainFor_of_name pn_0) hEL hE0 (fun x hx => by cases hx) ?_
  intro p e s m below meth c T0 hby hml hret hnm W0
  rw [(show entryFrame m #[(.ref ba), (.int (0 : Int32)), (.int (1 : Int32))] 5 = mkF m 0 #[.val (.ref ba), .val (.int (0 : Int32)), .val (.int (1 : Int32)), .unset, .unset] [] from by first | (simp [entryFrame, mkF, argsToLocals, Value.category]; done) | rfl)]
  refine Go.by (fun t9_ q9_ => XS.iloadN W0.here W0.hx rfl (hb hby dc_jdk_52_method_14_code_0) rfl q9_) ?_
  show Go p e below s Z [] _ _ _ (T0.setTop (mkF m 1 #[.val (.ref ba), .val (.int (0 : Int32)), .val (.int (1 : Int32)), .unset, .unset] [(.int (1 : Int32))]))
  refine W0.callS (y := (⟨"java/lang/StringUTF16", "newBytesFor", "(I)[B"⟩ : MethodName)) (wd82 hw) (wd83 hw) (wd17 hw) (wd84 hw) (by decide) (c_nbf1 l Z a0 hw hEL h0 hE0) all0 (by decide) (by decide) (k' := 1) (n' := 2) rfl rfl (by decide) (by decide) (by rw [hml]; rfl) (argsL := [(.int (1 : Int32))]) (rest := []) (lenOf pd_1 rfl) rfl rfl (Wt := 0) (Nat.le_of_eq rfl) (hb hby dc_jdk_52_method_14_code_1) ?_
  intro v_ T29 h31 W30 hq_
  obtain ⟨ta, k_ta, rfl, X1, z_ta, g_ta, E_ta, A_ta⟩ := hq_
  show Go p e below s Z [] _ _ _ (T29.setTop (mkF m 4 #[.val (.ref ba), .val (.int (0 : Int32)), .val (.int (1 : Int32)), .unset, .unset] [(.ref ta)]))
  have W32 := W30.safeN (A_ta.lt)
  refine Go.by (fun t9_ q9_ => XS.astoreN W32.here W32.hx rfl (hb hby dc_jdk_52_method_14_code_4) rfl rfl (l' := #[.val (.ref ba), .val (.int (0 : Int32)), .val (.int (1 : Int32)), .val (.ref ta), .unset]) rfl (XS.iconst W32.here W32.hx rfl (hb hby dc_jdk_52_method_14_code_5) (XS.istore W32.here W32.hx rfl (hb hby dc_jdk_52_method_14_code_6) rfl (l' := #[.val (.ref ba), .val (.int (0 : Int32)), .val (.int (1 : Int32)), .val (.ref ta), .val (.int (0 : Int32))]) rfl (XS.iload W32.here W32.hx rfl (hb hby dc_jdk_52_method_14_code_8) rfl (XS.iloadN W32.here W32.hx rfl (hb hby dc_jdk_52_method_14_code_10) rfl q9_))))) ?_
  show Go p e below s Z [] _ _ _ (T29.setTop (mkF m 11 #[.val (.ref ba), .val (.int (0 : Int32)), .val (.int (1 : Int32)), .val (.ref ta), .val (.int (0 : Int32))] [(.int (1 : Int32)), (.int (0 : Int32))]))
  refine Go.by (fun t9_ q9_ => XS.icmpNo W32.here W32.hx rfl (hb hby dc_jdk_52_method_14_code_11) rfl (tlt (by decide)).2.1 q9_) ?_
  show Go p e below s Z [] _ _ _ (T29.setTop (mkF m 14 #[.val (.ref ba), .val (.int (0 : Int32)), .val (.int (1 : Int32)), .val (.ref ta), .val (.int (0 : Int32))] []))
  refine Go.by (fun t9_ q9_ => XS.aloadN W32.here W32.hx rfl (hb hby dc_jdk_52_method_14_code_14) rfl rfl (XS.iload W32.here W32.hx rfl (hb hby dc_jdk_52_method_14_code_15) rfl (XS.aloadN W32.here W32.hx rfl (hb hby dc_jdk_52_method_14_code_17) rfl rfl (XS.iloadN W32.here W32.hx rfl (hb hby dc_jdk_52_method_14_code_18) rfl q9_)))) ?_
  show Go p e below s Z [] _ _ _ (T29.setTop (mkF m 19 #[.val (.ref ba), .val (.int (0 : Int32)), .val (.int (1 : Int32)), .val (.ref ta), .val (.int (0 : Int32))] [(.int (0 : Int32)), (.ref ba), (.int (0 : Int32)), (.ref ta)]))
  refine W32.cald (A_b.ext X1) ⟨by decide, by decide⟩ (v := (.int c0)) rfl (hb hby dc_jdk_52_method_14_code_19) ?_
  show Go p e below s Z [] _ _ _ (T29.setTop (mkF m 20 #[.val (.ref ba), .val (.int (0 : Int32)), .val (.int (1 : Int32)), .val (.ref ta), .val (.int (0 : Int32))] [(.int c0), (.int (0 : Int32)), (.ref ta)]))
  refine W32.callS (y := (⟨"java/lang/StringUTF16", "putChar", "([BII)V"⟩ : MethodName)) (wd89 hw) (wd90 hw) (wd17 hw) (wd91 hw) (by decide) (c_put1_0 l Z a0 hw hEL h31 W32.old ta k_ta (.int (0 : Int32)) (.int (0 : Int32)) c0 SAD SHI SLO A_ta z_ta) (allS (List.mem_of_getElem? (i := 0) rfl) all0) (by decide) (by decide) (k' := 1) (n' := 2) rfl rfl (by decide) (by decide) (by rw [hml]; rfl) (argsL := [(.ref ta), (.int (0 : Int32)), (.int c0)]) (rest := []) (lenOf pd_2 rfl) rfl rfl (Wt := 0) (Nat.le_of_eq rfl) (hb hby dc_jdk_52_method_14_code_20) ?_
  intro v_ T33 h35 W34 hq_
  obtain ⟨rfl, K0, A0_ta⟩ := hq_
  show Go p e below s Z [] _ _ _ (T33.setTop (mkF m 23 #[.val (.ref ba), .val (.int (0 : Int32)), .val (.int (1 : Int32)), .val (.ref ta), .val (.int (0 : Int32))] []))
  refine Go.by (fun t9_ q9_ => XS.iinc W34.here W34.hx rfl (hb hby dc_jdk_52_method_14_code_23) rfl (l' := #[.val (.ref ba), .val (.int ((0 : Int32) + (1 : Int32))), .val (.int (1 : Int32)), .val (.ref ta), .val (.int (0 : Int32))]) rfl q9_) ?_
  show Go p e below s Z [] _ _ _ (T33.setTop (mkF m 26 #[.val (.ref ba), .val (.int ((0 : Int32) + (1 : Int32))), .val (.int (1 : Int32)), .val (.ref ta), .val (.int (0 : Int32))] []))
  show Go p e below s Z [] _ _ _ (T33.setTop (mkF m 26 #[.val (.ref ba), .val (.int (1 : Int32)), .val (.int (1 : Int32)), .val (.ref ta), .val (.int (0 : Int32))] []))
  refine Go.by (fun t9_ q9_ => XS.iinc W34.here W34.hx rfl (hb hby dc_jdk_52_method_14_code_26) rfl (l' := #[.val (.ref ba), .val (.int (1 : Int32)), .val (.int (1 : Int32)), .val (.ref ta), .val (.int ((0 : Int32) + (1 : Int32)))]) rfl q9_) ?_
  show Go p e below s Z [] _ _ _ (T33.setTop (mkF m 29 #[.val (.ref ba), .val (.int (1 : Int32)), .val (.int (1 : Int32)), .val (.ref ta), .val (.int ((0 : Int32) + (1 : Int32)))] []))
  show Go p e below s Z [] _ _ _ (T33.setTop (mkF m 29 #[.val (.ref ba), .val (.int (1 : Int32)), .val (.int (1 : Int32)), .val (.ref ta), .val (.int (1 : Int32))] []))
  refine Go.by (fun t9_ q9_ => XS.goto W34.here W34.hx rfl (pc0 := 29) (pc' := 8) rfl (hb hby dc_jdk_52_method_14_code_29) (by decide) (by decide) (XS.iload W34.here W34.hx rfl (hb hby dc_jdk_52_method_14_code_8) rfl (XS.iloadN W34.here W34.hx rfl (hb hby dc_jdk_52_method_14_code_10) rfl q9_))) ?_
  show Go p e below s Z [] _ _ _ (T33.setTop (mkF m 11 #[.val (.ref ba), .val (.int (1 : Int32)), .val (.int (1 : Int32)), .val (.ref ta), .val (.int (1 : Int32))] [(.int (1 : Int32)), (.int (1 : Int32))]))
  refine Go.by (fun t9_ q9_ => XS.icmpYes W34.here W34.hx rfl (pc0 := 11) (pc' := 32) rfl (hb hby dc_jdk_52_method_14_code_11) rfl (flt (by decide)).2.1 (by decide) (by decide) q9_) ?_
  show Go p e below s Z [] _ _ _ (T33.setTop (mkF m 32 #[.val (.ref ba), .val (.int (1 : Int32)), .val (.int (1 : Int32)), .val (.ref ta), .val (.int (1 : Int32))] []))
  refine Go.by (fun t9_ q9_ => XS.aloadN W34.here W34.hx rfl (hb hby dc_jdk_52_method_14_code_32) rfl rfl q9_) ?_
  show Go p e below s Z [] _ _ _ (T33.setTop (mkF m 33 #[.val (.ref ba), .val (.int (1 : Int32)), .val (.int (1 : Int32)), .val (.ref ta), .val (.int (1 : Int32))] [(.ref ta)]))
  have X36 : Ext h0 h35 := (Ext.keep' X1 K0 (allS (Nat.le_of_eq g_ta) all0))
  exact W34.retA (by decide) (by decide) hret rfl rfl (hb hby dc_jdk_52_method_14_code_33) ⟨ta, k_ta, rfl, X36, (E_ta.keep K0), A0_ta⟩
set_option maxRecDepth 65536 in
set_option maxHeartbeats 40000000 in
theorem c_cm5_1 (l : Launch) (Z : State) (a0 : Array Value) (hw : ∀ d ∈ tables_1, d.before a0 Z = true) (hEL : EW Z a0 []) (h0 : Heap) (hE0 : Ext Z.heap h0) (ba da : Addr) (kb k_da : ClassId) (c0 : Int32) (A_b : Arv Z h0 ba kb .char (1 : Int32) [(.int c0)] (.int (0 : Int32))) (A_d : Arv Z h0 da k_da .byte (1 : Int32) [(.int (0 : Int32))] (.int (0 : Int32))) (z_da : Z.heap.size ≤ da) (nbd : ba ≠ da) (hbig : (255 : Int32) < c0) :
    Con l Z [] [da] (⟨"java/lang/StringUTF16", "compress", "([CI[BII)I"⟩ : MethodName) jdk_52_method_21_code 7 (some .int) [] ({ frames := 0, cells := 0, slots := 0, locals := 0 } : Room) #[(.ref ba), (.int (0 : Int32)), (.ref da), (.int (0 : Int32)), (.int (1 : Int32))] h0 (fun v h' => ∃ kk : Int32, v = some (.int kk) ∧ Keep h0 h' [da] ∧ (kk = (0 : Int32) ∧ (255 : Int32) < c0)) := by
  refine Con.mk (plainFor_of_name pn_0) hEL hE0 (allS A_d.lt all0) ?_
  intro p e s m below meth c T0 hby hml hret hnm W0
  rw [(show entryFrame m #[(.ref ba), (.int (0 : Int32)), (.ref da), (.int (0 : Int32)), (.int (1 : Int32))] 7 = mkF m 0 #[.val (.ref ba), .val (.int (0 : Int32)), .val (.ref da), .val (.int (0 : Int32)), .val (.int (1 : Int32)), .unset, .unset] [] from by first | (simp [entryFrame, mkF, argsToLocals, Value.category]; done) | rfl)]
  refine Go.by (fun t9_ q9_ => XS.iconst W0.here W0.hx rfl (hb hby dc_jdk_52_method_21_code_0) (XS.istore W0.here W0.hx rfl (hb hby dc_jdk_52_method_21_code_1) rfl (l' := #[.val (.ref ba), .val (.int (0 : Int32)), .val (.ref da), .val (.int (0 : Int32)), .val (.int (1 : Int32)), .val (.int (0 : Int32)), .unset]) rfl (XS.iload W0.here W0.hx rfl (hb hby dc_jdk_52_method_21_code_3) rfl (XS.iload W0.here W0.hx rfl (hb hby dc_jdk_52_method_21_code_5) rfl q9_)))) ?_
  show Go p e below s Z [] _ _ _ (T0.setTop (mkF m 7 #[.val (.ref ba), .val (.int (0 : Int32)), .val (.ref da), .val (.int (0 : Int32)), .val (.int (1 : Int32)), .val (.int (0 : Int32)), .unset] [(.int (1 : Int32)), (.int (0 : Int32))]))
  refine Go.by (fun t9_ q9_ => XS.icmpNo W0.here W0.hx rfl (hb hby dc_jdk_52_method_21_code_7) rfl (tlt (by decide)).2.1 q9_) ?_
  show Go p e below s Z [] _ _ _ (T0.setTop (mkF m 10 #[.val (.ref ba), .val (.int (0 : Int32)), .val (.ref da), .val (.int (0 : Int32)), .val (.int (1 : Int32)), .val (.int (0 : Int32)), .unset] []))
  refine Go.by (fun t9_ q9_ => XS.aloadN W0.here W0.hx rfl (hb hby dc_jdk_52_method_21_code_10) rfl rfl (XS.iloadN W0.here W0.hx rfl (hb hby dc_jdk_52_method_21_code_11) rfl q9_)) ?_
  show Go p e below s Z [] _ _ _ (T0.setTop (mkF m 12 #[.val (.ref ba), .val (.int (0 : Int32)), .val (.ref da), .val (.int (0 : Int32)), .val (.int (1 : Int32)), .val (.int (0 : Int32)), .unset] [(.int (0 : Int32)), (.ref ba)]))
  refine W0.cald A_b ⟨by decide, by decide⟩ (v := (.int c0)) rfl (hb hby dc_jdk_52_method_21_code_12) ?_
  show Go p e below s Z [] _ _ _ (T0.setTop (mkF m 13 #[.val (.ref ba), .val (.int (0 : Int32)), .val (.ref da), .val (.int (0 : Int32)), .val (.int (1 : Int32)), .val (.int (0 : Int32)), .unset] [(.int c0)]))
  refine Go.by (fun t9_ q9_ => XS.istore W0.here W0.hx rfl (hb hby dc_jdk_52_method_21_code_13) rfl (l' := #[.val (.ref ba), .val (.int (0 : Int32)), .val (.ref da), .val (.int (0 : Int32)), .val (.int (1 : Int32)), .val (.int (0 : Int32)), .val (.int c0)]) rfl (XS.iload W0.here W0.hx rfl (hb hby dc_jdk_52_method_21_code_15) rfl (XS.sipush W0.here W0.hx rfl (hb hby dc_jdk_52_method_21_code_17) q9_))) ?_
  show Go p e below s Z [] _ _ _ (T0.setTop (mkF m 20 #[.val (.ref ba), .val (.int (0 : Int32)), .val (.ref da), .val (.int (0 : Int32)), .val (.int (1 : Int32)), .val (.int (0 : Int32)), .val (.int c0)] [(.int (255 : Int32)), (.int c0)]))
  by_cases e0 : (255 : Int32) < c0
  · refine Go.by (fun t9_ q9_ => XS.icmpNo W0.here W0.hx rfl (hb hby dc_jdk_52_method_21_code_20) rfl (tlt e0).2.2.2 q9_) ?_
    show Go p e below s Z [] _ _ _ (T0.setTop (mkF m 23 #[.val (.ref ba), .val (.int (0 : Int32)), .val (.ref da), .val (.int (0 : Int32)), .val (.int (1 : Int32)), .val (.int (0 : Int32)), .val (.int c0)] []))
    refine Go.by (fun t9_ q9_ => XS.iload W0.here W0.hx rfl (hb hby dc_jdk_52_method_21_code_23) rfl q9_) ?_
    show Go p e below s Z [] _ _ _ (T0.setTop (mkF m 25 #[.val (.ref ba), .val (.int (0 : Int32)), .val (.ref da), .val (.int (0 : Int32)), .val (.int (1 : Int32)), .val (.int (0 : Int32)), .val (.int c0)] [(.int (0 : Int32))]))
    exact W0.retI (by decide) (by decide) hret (hb hby dc_jdk_52_method_21_code_25) ⟨(0 : Int32), rfl, (Keep.refl h0 [da]), ⟨rfl, e0⟩⟩
  · refine Go.by (fun t9_ q9_ => XS.icmpYes W0.here W0.hx rfl (pc0 := 20) (pc' := 26) rfl (hb hby dc_jdk_52_method_21_code_20) rfl (flt e0).2.2.2 (by decide) (by decide) q9_) ?_
    show Go p e below s Z [] _ _ _ (T0.setTop (mkF m 26 #[.val (.ref ba), .val (.int (0 : Int32)), .val (.ref da), .val (.int (0 : Int32)), .val (.int (1 : Int32)), .val (.int (0 : Int32)), .val (.int c0)] []))
    refine Go.by (fun t9_ q9_ => XS.aloadN W0.here W0.hx rfl (hb hby dc_jdk_52_method_21_code_26) rfl rfl (XS.iloadN W0.here W0.hx rfl (hb hby dc_jdk_52_method_21_code_27) rfl (XS.iload W0.here W0.hx rfl (hb hby dc_jdk_52_method_21_code_28) rfl (XS.i2b W0.here W0.hx rfl (hb hby dc_jdk_52_method_21_code_30) rfl q9_)))) ?_
    show Go p e below s Z [] _ _ _ (T0.setTop (mkF m 31 #[.val (.ref ba), .val (.int (0 : Int32)), .val (.ref da), .val (.int (0 : Int32)), .val (.int (1 : Int32)), .val (.int (0 : Int32)), .val (.int c0)] [(.int (c0.toInt8.toInt32)), (.int (0 : Int32)), (.ref da)]))
    refine W0.bast A_d ⟨by decide, by decide⟩ (i := 0) rfl (by simp) (v' := (StrChars.lo8 c0)) (by simp [nar, StrChars.lo8, lo8_lo8]) z_da (List.mem_of_getElem? (i := 0) rfl) (hb hby dc_jdk_52_method_21_code_31) ?_
    intro T37 h38 W39 Wr40 V41_da'
    have V41_da : Arv Z h38 da k_da .byte (1 : Int32) [(.int (StrChars.lo8 c0))] (.int (0 : Int32)) := V41_da'
    show Go p e below s Z [] _ _ _ (T37.setTop (mkF m 32 #[.val (.ref ba), .val (.int (0 : Int32)), .val (.ref da), .val (.int (0 : Int32)), .val (.int (1 : Int32)), .val (.int (0 : Int32)), .val (.int c0)] []))
    refine Go.by (fun t9_ q9_ => XS.iinc W39.here W39.hx rfl (hb hby dc_jdk_52_method_21_code_32) rfl (l' := #[.val (.ref ba), .val (.int ((0 : Int32) + (1 : Int32))), .val (.ref da), .val (.int (0 : Int32)), .val (.int (1 : Int32)), .val (.int (0 : Int32)), .val (.int c0)]) rfl q9_) ?_
    show Go p e below s Z [] _ _ _ (T37.setTop (mkF m 35 #[.val (.ref ba), .val (.int ((0 : Int32) + (1 : Int32))), .val (.ref da), .val (.int (0 : Int32)), .val (.int (1 : Int32)), .val (.int (0 : Int32)), .val (.int c0)] []))
    show Go p e below s Z [] _ _ _ (T37.setTop (mkF m 35 #[.val (.ref ba), .val (.int (1 : Int32)), .val (.ref da), .val (.int (0 : Int32)), .val (.int (1 : Int32)), .val (.int (0 : Int32)), .val (.int c0)] []))
    refine Go.by (fun t9_ q9_ => XS.iinc W39.here W39.hx rfl (hb hby dc_jdk_52_method_21_code_35) rfl (l' := #[.val (.ref ba), .val (.int (1 : Int32)), .val (.ref da), .val (.int ((0 : Int32) + (1 : Int32))), .val (.int (1 : Int32)), .val (.int (0 : Int32)), .val (.int c0)]) rfl q9_) ?_
    show Go p e below s Z [] _ _ _ (T37.setTop (mkF m 38 #[.val (.ref ba), .val (.int (1 : Int32)), .val (.ref da), .val (.int ((0 : Int32) + (1 : Int32))), .val (.int (1 : Int32)), .val (.int (0 : Int32)), .val (.int c0)] []))
    show Go p e below s Z [] _ _ _ (T37.setTop (mkF m 38 #[.val (.ref ba), .val (.int (1 : Int32)), .val (.ref da), .val (.int (1 : Int32)), .val (.int (1 : Int32)), .val (.int (0 : Int32)), .val (.int c0)] []))
    refine Go.by (fun t9_ q9_ => XS.iinc W39.here W39.hx rfl (hb hby dc_jdk_52_method_21_code_38) rfl (l' := #[.val (.ref ba), .val (.int (1 : Int32)), .val (.ref da), .val (.int (1 : Int32)), .val (.int (1 : Int32)), .val (.int ((0 : Int32) + (1 : Int32))), .val (.int c0)]) rfl q9_) ?_
    show Go p e below s Z [] _ _ _ (T37.setTop (mkF m 41 #[.val (.ref ba), .val (.int (1 : Int32)), .val (.ref da), .val (.int (1 : Int32)), .val (.int (1 : Int32)), .val (.int ((0 : Int32) + (1 : Int32))), .val (.int c0)] []))
    show Go p e below s Z [] _ _ _ (T37.setTop (mkF m 41 #[.val (.ref ba), .val (.int (1 : Int32)), .val (.ref da), .val (.int (1 : Int32)), .val (.int (1 : Int32)), .val (.int (1 : Int32)), .val (.int c0)] []))
    exact absurd hbig e0
set_option maxRecDepth 65536 in
set_option maxHeartbeats 40000000 in
theorem c_cm3_1 (l : Launch) (Z : State) (a0 : Array Value) (hw : ∀ d ∈ tables_1, d.before a0 Z = true) (hEL : EW Z a0 []) (h0 : Heap) (hE0 : Ext Z.heap h0) (ba : Addr) (kb : ClassId) (c0 : Int32) (SAD : Sta Z Z.heap "java/lang/StringUTF16" "$assertionsDisabled" "Z" (.int 1)) (SHI : Sta Z Z.heap "java/lang/StringUTF16" "HI_BYTE_SHIFT" "I" (.int 0)) (SLO : Sta Z Z.heap "java/lang/StringUTF16" "LO_BYTE_SHIFT" "I" (.int 8)) (A_b : Arv Z h0 ba kb .char (1 : Int32) [(.int c0)] (.int (0 : Int32))) (r0 : ¬ c0 < 0 ∧ ¬ (65535 : Int32) < c0) (hbig : (255 : Int32) < c0) :
    Con l Z [] [] (⟨"java/lang/StringUTF16", "compress", "([CII)[B"⟩ : MethodName) jdk_52_method_16_code 6 (some (.array .byte)) [] ({ frames := 3, cells := 2, slots := 3, locals := 40 } : Room) #[(.ref ba), (.int (0 : Int32)), (.int (1 : Int32))] h0 (fun v h' => ∃ ta kt, v = some (.ref ta) ∧ Ext h0 h' ∧ Exa Z h' ta "[B" ∧ Arv Z h' ta kt .byte (2 : Int32) [(.int (StrChars.lo8 c0)), (.int (StrChars.hi8 c0))] (.int (0 : Int32))) := by
  refine Con.mk (plainFor_of_name pn_0) hEL hE0 (fun x hx => by cases hx) ?_
  intro p e s m below meth c T0 hby hml hret hnm W0
  rw [(show entryFrame m #[(.ref ba), (.int (0 : Int32)), (.int (1 : Int32))] 6 = mkF m 0 #[.val (.ref ba), .val (.int (0 : Int32)), .val (.int (1 : Int32)), .unset, .unset, .unset] [] from by first | (simp [entryFrame, mkF, argsToLocals, Value.category]; done) | rfl)]
  refine Go.by (fun t9_ q9_ => XS.iloadN W0.here W0.hx rfl (hb hby dc_jdk_52_method_16_code_0) rfl q9_) ?_
  show Go p e below s Z [] _ _ _ (T0.setTop (mkF m 1 #[.val (.ref ba), .val (.int (0 : Int32)), .val (.int (1 : Int32)), .unset, .unset, .unset] [(.int (1 : Int32))]))
  refine W0.newp (aty := .byte) (wd19 hw) (hb hby dc_jdk_52_method_16_code_1) (by decide) (cap := 1) (by decide) (by decide) (k' := 1) (n' := 1) rfl rfl (by decide) (by decide) (ad := "[B") rfl ?_
  intro T42 h43 da k_da W44 E45 g_da z_da A_da V_da
  have V1_da : Arv Z h43 da k_da .byte (1 : Int32) [(.int (0 : Int32))] (.int (0 : Int32)) := V_da.pad (pad_rep [] (.int (0 : Int32)) 1)
  show Go p e below s Z [] _ _ _ (T42.setTop (mkF m 3 #[.val (.ref ba), .val (.int (0 : Int32)), .val (.int (1 : Int32)), .unset, .unset, .unset] [(.ref da)]))
  refine Go.by (fun t9_ q9_ => XS.astoreN W44.here W44.hx rfl (hb hby dc_jdk_52_method_16_code_3) rfl rfl (l' := #[.val (.ref ba), .val (.int (0 : Int32)), .val (.int (1 : Int32)), .val (.ref da), .unset, .unset]) rfl (XS.aloadN W44.here W44.hx rfl (hb hby dc_jdk_52_method_16_code_4) rfl rfl (XS.iloadN W44.here W44.hx rfl (hb hby dc_jdk_52_method_16_code_5) rfl (XS.aloadN W44.here W44.hx rfl (hb hby dc_jdk_52_method_16_code_6) rfl rfl (XS.iconst W44.here W44.hx rfl (hb hby dc_jdk_52_method_16_code_7) (XS.iloadN W44.here W44.hx rfl (hb hby dc_jdk_52_method_16_code_8) rfl q9_)))))) ?_
  show Go p e below s Z [] _ _ _ (T42.setTop (mkF m 9 #[.val (.ref ba), .val (.int (0 : Int32)), .val (.int (1 : Int32)), .val (.ref da), .unset, .unset] [(.int (1 : Int32)), (.int (0 : Int32)), (.ref da), (.int (0 : Int32)), (.ref ba)]))
  refine W44.callS (y := (⟨"java/lang/StringUTF16", "compress", "([CI[BII)I"⟩ : MethodName)) (wd20 hw) (wd21 hw) (wd17 hw) (wd22 hw) (by decide) (c_cm5_1 l Z a0 hw hEL h43 W44.old ba da kb k_da c0 (A_b.ext E45) V1_da z_da (Nat.ne_of_lt (Nat.lt_of_lt_of_le A_b.lt (Nat.le_of_eq g_da))) hbig) (allS (List.mem_of_getElem? (i := 0) rfl) all0) (by decide) (by decide) (k' := 1) (n' := 1) rfl rfl (by decide) (by decide) (by rw [hml]; rfl) (argsL := [(.ref ba), (.int (0 : Int32)), (.ref da), (.int (0 : Int32)), (.int (1 : Int32))]) (rest := []) (lenOf pd_3 rfl) rfl rfl (Wt := 0) (Nat.le_of_eq rfl) (hb hby dc_jdk_52_method_16_code_9) ?_
  intro v_ T46 h48 W47 hq_
  obtain ⟨kk, rfl, K1, hk⟩ := hq_
  show Go p e below s Z [] _ _ _ (T46.setTop (mkF m 12 #[.val (.ref ba), .val (.int (0 : Int32)), .val (.int (1 : Int32)), .val (.ref da), .unset, .unset] [(.int kk)]))
  refine Go.by (fun t9_ q9_ => XS.istore W47.here W47.hx rfl (hb hby dc_jdk_52_method_16_code_12) rfl (l' := #[.val (.ref ba), .val (.int (0 : Int32)), .val (.int (1 : Int32)), .val (.ref da), .val (.int kk), .unset]) rfl (XS.iload W47.here W47.hx rfl (hb hby dc_jdk_52_method_16_code_14) rfl (XS.iloadN W47.here W47.hx rfl (hb hby dc_jdk_52_method_16_code_16) rfl q9_))) ?_
  show Go p e below s Z [] _ _ _ (T46.setTop (mkF m 17 #[.val (.ref ba), .val (.int (0 : Int32)), .val (.int (1 : Int32)), .val (.ref da), .val (.int kk), .unset] [(.int (1 : Int32)), (.int kk)]))
  rcases hk with ⟨rfl, e0⟩
  · show Go p e below s Z [] _ _ _ (T46.setTop (mkF m 17 #[.val (.ref ba), .val (.int (0 : Int32)), .val (.int (1 : Int32)), .val (.ref da), .val (.int (0 : Int32)), .unset] [(.int (1 : Int32)), (.int (0 : Int32))]))
    refine Go.by (fun t9_ q9_ => XS.icmpNo W47.here W47.hx rfl (hb hby dc_jdk_52_method_16_code_17) rfl (feq (by decide)).1 q9_) ?_
    show Go p e below s Z [] _ _ _ (T46.setTop (mkF m 20 #[.val (.ref ba), .val (.int (0 : Int32)), .val (.int (1 : Int32)), .val (.ref da), .val (.int (0 : Int32)), .unset] []))
    refine Go.by (fun t9_ q9_ => XS.aloadN W47.here W47.hx rfl (hb hby dc_jdk_52_method_16_code_20) rfl rfl (XS.iloadN W47.here W47.hx rfl (hb hby dc_jdk_52_method_16_code_21) rfl (XS.iloadN W47.here W47.hx rfl (hb hby dc_jdk_52_method_16_code_22) rfl q9_))) ?_
    show Go p e below s Z [] _ _ _ (T46.setTop (mkF m 23 #[.val (.ref ba), .val (.int (0 : Int32)), .val (.int (1 : Int32)), .val (.ref da), .val (.int (0 : Int32)), .unset] [(.int (1 : Int32)), (.int (0 : Int32)), (.ref ba)]))
    have X49 : Ext h0 h48 := (Ext.keep' E45 K1 (allS (Nat.le_of_eq g_da) all0))
    refine W47.callS (y := (⟨"java/lang/StringUTF16", "toBytes", "([CII)[B"⟩ : MethodName)) (wd79 hw) (wd80 hw) (wd17 hw) (wd81 hw) (by decide) (c_tb1 l Z a0 hw hEL h48 W47.old ba kb c0 SAD SHI SLO (A_b.ext X49)) all0 (by decide) (by decide) (k' := 2) (n' := 3) rfl rfl (by decide) (by decide) (by rw [hml]; rfl) (argsL := [(.ref ba), (.int (0 : Int32)), (.int (1 : Int32))]) (rest := []) (lenOf pd_4 rfl) rfl rfl (Wt := 0) (Nat.le_of_eq rfl) (hb hby dc_jdk_52_method_16_code_23) ?_
    intro v_ T50 h52 W51 hq_
    obtain ⟨ta, k_ta, rfl, X2, E_ta, A_ta⟩ := hq_
    show Go p e below s Z [] _ _ _ (T50.setTop (mkF m 26 #[.val (.ref ba), .val (.int (0 : Int32)), .val (.int (1 : Int32)), .val (.ref da), .val (.int (0 : Int32)), .unset] [(.ref ta)]))
    refine Go.by (fun t9_ q9_ => XS.astore W51.here W51.hx rfl (hb hby dc_jdk_52_method_16_code_26) rfl rfl (l' := #[.val (.ref ba), .val (.int (0 : Int32)), .val (.int (1 : Int32)), .val (.ref da), .val (.int (0 : Int32)), .val (.ref ta)]) rfl (XS.aload W51.here W51.hx rfl (hb hby dc_jdk_52_method_16_code_28) rfl rfl (XS.iload W51.here W51.hx rfl (hb hby dc_jdk_52_method_16_code_30) rfl q9_))) ?_
    show Go p e below s Z [] _ _ _ (T50.setTop (mkF m 32 #[.val (.ref ba), .val (.int (0 : Int32)), .val (.int (1 : Int32)), .val (.ref da), .val (.int (0 : Int32)), .val (.ref ta)] [(.int (0 : Int32)), (.ref ta)]))
    refine W51.callSp (y := (⟨"java/lang/StringUTF16", "getChar", "([BI)C"⟩ : MethodName)) (wd95 hw) (wd96 hw) (wd17 hw) (wd97 hw) (by decide) (c_get1_0 l Z a0 hw hEL h52 W51.old ta k_ta _ _ _ c0 SAD SHI SLO A_ta rfl rfl (StrChars.pair_says r0.1 r0.2) r0) all0 (by decide) (by decide) (k' := 2) (n' := 3) rfl rfl (by decide) (by decide) (by rw [hml]; rfl) (argsL := [(.ref ta), (.int (0 : Int32))]) (rest := []) (lenOf pd_5 rfl) rfl rfl (Wt := 0) (Nat.le_of_eq rfl) (hb hby dc_jdk_52_method_16_code_32) ?_
    intro T53 W54
    show Go p e below s Z [] _ _ _ (T53.setTop (mkF m 35 #[.val (.ref ba), .val (.int (0 : Int32)), .val (.int (1 : Int32)), .val (.ref da), .val (.int (0 : Int32)), .val (.ref ta)] [(.int c0)]))
    refine Go.by (fun t9_ q9_ => XS.sipush W54.here W54.hx rfl (hb hby dc_jdk_52_method_16_code_35) q9_) ?_
    show Go p e below s Z [] _ _ _ (T53.setTop (mkF m 38 #[.val (.ref ba), .val (.int (0 : Int32)), .val (.int (1 : Int32)), .val (.ref da), .val (.int (0 : Int32)), .val (.ref ta)] [(.int (255 : Int32)), (.int c0)]))
    refine Go.by (fun t9_ q9_ => XS.icmpYes W54.here W54.hx rfl (pc0 := 38) (pc' := 54) rfl (hb hby dc_jdk_52_method_16_code_38) rfl (tlt e0).2.2.1 (by decide) (by decide) q9_) ?_
    show Go p e below s Z [] _ _ _ (T53.setTop (mkF m 54 #[.val (.ref ba), .val (.int (0 : Int32)), .val (.int (1 : Int32)), .val (.ref da), .val (.int (0 : Int32)), .val (.ref ta)] []))
    refine Go.by (fun t9_ q9_ => XS.aload W54.here W54.hx rfl (hb hby dc_jdk_52_method_16_code_54) rfl rfl q9_) ?_
    show Go p e below s Z [] _ _ _ (T53.setTop (mkF m 56 #[.val (.ref ba), .val (.int (0 : Int32)), .val (.int (1 : Int32)), .val (.ref da), .val (.int (0 : Int32)), .val (.ref ta)] [(.ref ta)]))
    have X55 : Ext h0 h52 := (Ext.trans' X49 X2)
    exact W54.retA (by decide) (by decide) hret rfl rfl (hb hby dc_jdk_52_method_16_code_56) ⟨ta, k_ta, rfl, X55, E_ta, A_ta⟩
set_option maxRecDepth 65536 in
set_option maxHeartbeats 40000000 in
theorem c_cod1 (l : Launch) (Z : State) (a0 : Array Value) (hw : ∀ d ∈ tables_1, d.before a0 Z = true) (hEL : EW Z a0 []) (h0 : Heap) (hE0 : Ext Z.heap h0) (ta : Addr) (k_ta : ClassId) (vs : List Value) (A_t : Arv Z h0 ta k_ta .byte (2 : Int32) vs (.int (0 : Int32))) :
    Con l Z [] [] (⟨"java/lang/StringUTF16", "coderFromArrayLen", "([BI)B"⟩ : MethodName) jdk_52_method_15_code 2 (some .byte) [] ({ frames := 0, cells := 0, slots := 0, locals := 0 } : Room) #[(.ref ta), (.int (1 : Int32))] h0 (fun v h' => v = (some (.int 1)) ∧ h' = h0) := by
  refine Con.mk (plainFor_of_name pn_0) hEL hE0 (fun x hx => by cases hx) ?_
  intro p e s m below meth c T0 hby hml hret hnm W0
  rw [(show entryFrame m #[(.ref ta), (.int (1 : Int32))] 2 = mkF m 0 #[.val (.ref ta), .val (.int (1 : Int32))] [] from by first | (simp [entryFrame, mkF, argsToLocals, Value.category]; done) | rfl)]
  refine Go.by (fun t9_ q9_ => XS.iloadN W0.here W0.hx rfl (hb hby dc_jdk_52_method_15_code_0) rfl (XS.aloadN W0.here W0.hx rfl (hb hby dc_jdk_52_method_15_code_1) rfl rfl q9_)) ?_
  show Go p e below s Z [] _ _ _ (T0.setTop (mkF m 2 #[.val (.ref ta), .val (.int (1 : Int32))] [(.ref ta), (.int (1 : Int32))]))
  refine W0.alen A_t (hb hby dc_jdk_52_method_15_code_2) ?_
  show Go p e below s Z [] _ _ _ (T0.setTop (mkF m 3 #[.val (.ref ta), .val (.int (1 : Int32))] [(.int (2 : Int32)), (.int (1 : Int32))]))
  refine Go.by (fun t9_ q9_ => XS.isub W0.here W0.hx rfl (hb hby dc_jdk_52_method_15_code_3) rfl (XS.bipush W0.here W0.hx rfl (hb hby dc_jdk_52_method_15_code_4) (XS.iushr W0.here W0.hx rfl (hb hby dc_jdk_52_method_15_code_6) rfl (XS.i2b W0.here W0.hx rfl (hb hby dc_jdk_52_method_15_code_7) rfl q9_)))) ?_
  show Go p e below s Z [] _ _ _ (T0.setTop (mkF m 8 #[.val (.ref ta), .val (.int (1 : Int32))] [(.int (((((1 : Int32) - (2 : Int32)).toUInt32 >>> ((31 : Int32) &&& 31).toUInt32).toInt32).toInt8.toInt32))]))
  exact W0.retN (z' := (1 : Int32)) (by decide) (by decide) hret (by simp) (hb hby dc_jdk_52_method_15_code_8) (by decide) ⟨rfl, rfl⟩
set_option maxRecDepth 65536 in
set_option maxHeartbeats 40000000 in
theorem c_s4_1 (l : Launch) (Z : State) (a0 : Array Value) (hw : ∀ d ∈ tables_1, d.before a0 Z = true) (hEL : EW Z a0 []) (h0 : Heap) (hE0 : Ext Z.heap h0) (x ba : Addr) (kb : ClassId) (c0 G1 : Int32) (E_x : Exa Z h0 x "java/lang/String") (FV : Fld Z h0 x "java/lang/String" "value" "[B" .null) (FC : Fld Z h0 x "java/lang/String" "coder" "B" (.int 0)) (z_x : Z.heap.size ≤ x) (SAD : Sta Z Z.heap "java/lang/StringUTF16" "$assertionsDisabled" "Z" (.int 1)) (SHI : Sta Z Z.heap "java/lang/StringUTF16" "HI_BYTE_SHIFT" "I" (.int 0)) (SLO : Sta Z Z.heap "java/lang/StringUTF16" "LO_BYTE_SHIFT" "I" (.int 8)) (SG1 : Sta Z Z.heap "java/lang/String" "COMPACT_STRINGS" "Z" (.int G1)) (hG : ¬ G1 = 0) (A_b : Arv Z h0 ba kb .char (1 : Int32) [(.int c0)] (.int (0 : Int32))) (r0 : ¬ c0 < 0 ∧ ¬ (65535 : Int32) < c0) (hbig : (255 : Int32) < c0) :
    Con l Z [] [x] (⟨"java/lang/String", "<init>", "([CIILjava/lang/Void;)V"⟩ : MethodName) jdk_42_method_149_code 6 none [] ({ frames := 4, cells := 2, slots := 3, locals := 57 } : Room) #[(.ref x), (.ref ba), (.int (0 : Int32)), (.int (1 : Int32)), .null] h0 (fun v h' => v = none ∧ Keep h0 h' [x] ∧ ∃ ta kt, Exa Z h' x "java/lang/String" ∧ Fld Z h' x "java/lang/String" "value" "[B" (.ref ta) ∧ Fld Z h' x "java/lang/String" "coder" "B" (.int 1) ∧ Arv Z h' ta kt .byte (2 : Int32) [(.int (StrChars.lo8 c0)), (.int (StrChars.hi8 c0))] (.int (0 : Int32))) := by
  refine Con.mk (plainFor_of_name pn_1) hEL hE0 (allS E_x.lt all0) ?_
  intro p e s m below meth c T0 hby hml hret hnm W0
  rw [(show entryFrame m #[(.ref x), (.ref ba), (.int (0 : Int32)), (.int (1 : Int32)), .null] 6 = mkF m 0 #[.val (.ref x), .val (.ref ba), .val (.int (0 : Int32)), .val (.int (1 : Int32)), .val .null, .unset] [] from by first | (simp [entryFrame, mkF, argsToLocals, Value.category]; done) | rfl)]
  refine Go.by (fun t9_ q9_ => XS.aloadN W0.here W0.hx rfl (hb hby dc_jdk_42_method_149_code_0) rfl rfl q9_) ?_
  show Go p e below s Z [] _ _ _ (T0.setTop (mkF m 1 #[.val (.ref x), .val (.ref ba), .val (.int (0 : Int32)), .val (.int (1 : Int32)), .val .null, .unset] [(.ref x)]))
  refine W0.initO (wd11 hw) (wd12 hw) (wd13 hw) (by rw [hml]; rfl) (hb hby dc_jdk_42_method_149_code_1) (by decide) (Wt := 0) (Nat.le_of_eq rfl) (by decide) ?_
  intro T56 W57
  show Go p e below s Z [] _ _ _ (T56.setTop (mkF m 4 #[.val (.ref x), .val (.ref ba), .val (.int (0 : Int32)), .val (.int (1 : Int32)), .val .null, .unset] []))
  refine Go.by (fun t9_ q9_ => XS.iloadN W57.here W57.hx rfl (hb hby dc_jdk_42_method_149_code_4) rfl q9_) ?_
  show Go p e below s Z [] _ _ _ (T56.setTop (mkF m 5 #[.val (.ref x), .val (.ref ba), .val (.int (0 : Int32)), .val (.int (1 : Int32)), .val .null, .unset] [(.int (1 : Int32))]))
  refine Go.by (fun t9_ q9_ => XS.ifYes W57.here W57.hx rfl (pc0 := 5) (pc' := 27) rfl (hb hby dc_jdk_42_method_149_code_5) rfl ((if0 _ _).trans (feq (by decide)).2) (by decide) (by decide) q9_) ?_
  show Go p e below s Z [] _ _ _ (T56.setTop (mkF m 27 #[.val (.ref x), .val (.ref ba), .val (.int (0 : Int32)), .val (.int (1 : Int32)), .val .null, .unset] []))
  refine W57.gets (host := "") (Or.inl (wd14 hw)) Via.refl (SG1.ext W57.old) (hb hby dc_jdk_42_method_149_code_27) ?_
  intro T58 W59
  show Go p e below s Z [] _ _ _ (T58.setTop (mkF m 30 #[.val (.ref x), .val (.ref ba), .val (.int (0 : Int32)), .val (.int (1 : Int32)), .val .null, .unset] [(.int G1)]))
  refine Go.by (fun t9_ q9_ => XS.ifNo W59.here W59.hx rfl (hb hby dc_jdk_42_method_149_code_30) rfl ((if0 _ _).trans (feq hG).1) q9_) ?_
  show Go p e below s Z [] _ _ _ (T58.setTop (mkF m 33 #[.val (.ref x), .val (.ref ba), .val (.int (0 : Int32)), .val (.int (1 : Int32)), .val .null, .unset] []))
  refine Go.by (fun t9_ q9_ => XS.aloadN W59.here W59.hx rfl (hb hby dc_jdk_42_method_149_code_33) rfl rfl (XS.iloadN W59.here W59.hx rfl (hb hby dc_jdk_42_method_149_code_34) rfl (XS.iloadN W59.here W59.hx rfl (hb hby dc_jdk_42_method_149_code_35) rfl q9_))) ?_
  show Go p e below s Z [] _ _ _ (T58.setTop (mkF m 36 #[.val (.ref x), .val (.ref ba), .val (.int (0 : Int32)), .val (.int (1 : Int32)), .val .null, .unset] [(.int (1 : Int32)), (.int (0 : Int32)), (.ref ba)]))
  refine W59.callS (y := (⟨"java/lang/StringUTF16", "compress", "([CII)[B"⟩ : MethodName)) (wd15 hw) (wd16 hw) (wd17 hw) (wd18 hw) (by decide) (c_cm3_1 l Z a0 hw hEL h0 W59.old ba kb c0 SAD SHI SLO A_b r0 hbig) all0 (by decide) (by decide) (k' := 2) (n' := 3) rfl rfl (by decide) (by decide) (by rw [hml]; rfl) (argsL := [(.ref ba), (.int (0 : Int32)), (.int (1 : Int32))]) (rest := []) (lenOf pd_4 rfl) rfl rfl (Wt := 0) (Nat.le_of_eq rfl) (hb hby dc_jdk_42_method_149_code_36) ?_
  intro v_ T60 h62 W61 hq_
  obtain ⟨ta, k_ta, rfl, X1, E_ta, A_ta⟩ := hq_
  show Go p e below s Z [] _ _ _ (T60.setTop (mkF m 39 #[.val (.ref x), .val (.ref ba), .val (.int (0 : Int32)), .val (.int (1 : Int32)), .val .null, .unset] [(.ref ta)]))
  refine Go.by (fun t9_ q9_ => XS.astore W61.here W61.hx rfl (hb hby dc_jdk_42_method_149_code_39) rfl rfl (l' := #[.val (.ref x), .val (.ref ba), .val (.int (0 : Int32)), .val (.int (1 : Int32)), .val .null, .val (.ref ta)]) rfl (XS.aloadN W61.here W61.hx rfl (hb hby dc_jdk_42_method_149_code_41) rfl rfl (XS.aload W61.here W61.hx rfl (hb hby dc_jdk_42_method_149_code_42) rfl rfl (XS.iloadN W61.here W61.hx rfl (hb hby dc_jdk_42_method_149_code_44) rfl q9_)))) ?_
  show Go p e below s Z [] _ _ _ (T60.setTop (mkF m 45 #[.val (.ref x), .val (.ref ba), .val (.int (0 : Int32)), .val (.int (1 : Int32)), .val .null, .val (.ref ta)] [(.int (1 : Int32)), (.ref ta), (.ref x)]))
  refine W61.callSp (y := (⟨"java/lang/StringUTF16", "coderFromArrayLen", "([BI)B"⟩ : MethodName)) (wd23 hw) (wd24 hw) (wd17 hw) (wd25 hw) (by decide) (c_cod1 l Z a0 hw hEL h62 W61.old ta k_ta _ A_ta) all0 (by decide) (by decide) (k' := 2) (n' := 3) rfl rfl (by decide) (by decide) (by rw [hml]; rfl) (argsL := [(.ref ta), (.int (1 : Int32))]) (rest := [(.ref x)]) (lenOf pd_6 rfl) rfl rfl (Wt := 1) (Nat.le_of_eq rfl) (hb hby dc_jdk_42_method_149_code_45) ?_
  intro T63 W64
  show Go p e below s Z [] _ _ _ (T63.setTop (mkF m 48 #[.val (.ref x), .val (.ref ba), .val (.int (0 : Int32)), .val (.int (1 : Int32)), .val .null, .val (.ref ta)] [(.int (1 : Int32)), (.ref x)]))
  refine W64.putf (host := "") (Or.inl (wd26 hw)) Via.refl (FC.ext X1) (E_x.ext X1) (Or.inr ⟨(wd27 hw), rfl, hnm⟩) (wd2 hw) (ty := .byte) (by decide) rfl rfl z_x (List.mem_of_getElem? (i := 0) rfl) (hb hby dc_jdk_42_method_149_code_48) ?_
  intro T65 h66 W67 Wr68
  have F69 : Fld Z h66 x "java/lang/String" "coder" "B" (.int (1 : Int32)) := (FC.ext X1).same Wr68
  have F70 : Fld Z h66 x "java/lang/String" "value" "[B" .null := (FV.ext X1).other Wr68 (Or.inr (slot_ne (Or.inr (wd29 hw)) (Or.inr (wd27 hw)) (by decide) (t := (.array .byte)) (t' := .byte) (by decide) (by decide)))
  have A71 : Exa Z h66 x "java/lang/String" := (E_x.ext X1).wr Wr68
  show Go p e below s Z [] _ _ _ (T65.setTop (mkF m 51 #[.val (.ref x), .val (.ref ba), .val (.int (0 : Int32)), .val (.int (1 : Int32)), .val .null, .val (.ref ta)] []))
  refine Go.by (fun t9_ q9_ => XS.aloadN W67.here W67.hx rfl (hb hby dc_jdk_42_method_149_code_51) rfl rfl (XS.aload W67.here W67.hx rfl (hb hby dc_jdk_42_method_149_code_52) rfl rfl q9_)) ?_
  show Go p e below s Z [] _ _ _ (T65.setTop (mkF m 54 #[.val (.ref x), .val (.ref ba), .val (.int (0 : Int32)), .val (.int (1 : Int32)), .val .null, .val (.ref ta)] [(.ref ta), (.ref x)]))
  refine W67.putf (host := "") (Or.inl (wd28 hw)) Via.refl F70 A71 (Or.inr ⟨(wd29 hw), rfl, hnm⟩) (wd2 hw) (ty := (.array .byte)) (by decide) rfl rfl z_x (List.mem_of_getElem? (i := 0) rfl) (hb hby dc_jdk_42_method_149_code_54) ?_
  intro T72 h73 W74 Wr75
  have F76 : Fld Z h73 x "java/lang/String" "value" "[B" (.ref ta) := F70.same Wr75
  have F77 : Fld Z h73 x "java/lang/String" "coder" "B" (.int (1 : Int32)) := F69.other Wr75 (Or.inr (slot_ne (Or.inr (wd27 hw)) (Or.inr (wd29 hw)) (by decide) (t := .byte) (t' := (.array .byte)) (by decide) (by decide)))
  have A78 : Exa Z h73 x "java/lang/String" := A71.wr Wr75
  show Go p e below s Z [] _ _ _ (T72.setTop (mkF m 57 #[.val (.ref x), .val (.ref ba), .val (.int (0 : Int32)), .val (.int (1 : Int32)), .val .null, .val (.ref ta)] []))
  exact W74.retV (by decide) (by decide) hret (hb hby dc_jdk_42_method_149_code_57) ⟨rfl, ((((Keep.refl h0 [x]).ext X1).wr Wr68 (Or.inl (List.mem_of_getElem? (i := 0) rfl))).wr Wr75 (Or.inl (List.mem_of_getElem? (i := 0) rfl))), ta, k_ta, A78, F76, F77, ((A_ta.other Wr68 (Exa.ne E_ta (E_x.ext X1) (by decide))).other Wr75 (Exa.ne (E_ta.wr Wr68) A71 (by decide)))⟩
set_option maxRecDepth 65536 in
set_option maxHeartbeats 40000000 in
theorem c_s16_1 (l : Launch) (Z : State) (a0 : Array Value) (hw : ∀ d ∈ tables_1, d.before a0 Z = true) (hEL : EW Z a0 []) (h0 : Heap) (hE0 : Ext Z.heap h0) (x ba : Addr) (kb : ClassId) (c0 G1 : Int32) (E_x : Exa Z h0 x "java/lang/String") (FV : Fld Z h0 x "java/lang/String" "value" "[B" .null) (FC : Fld Z h0 x "java/lang/String" "coder" "B" (.int 0)) (z_x : Z.heap.size ≤ x) (SAD : Sta Z Z.heap "java/lang/StringUTF16" "$assertionsDisabled" "Z" (.int 1)) (SHI : Sta Z Z.heap "java/lang/StringUTF16" "HI_BYTE_SHIFT" "I" (.int 0)) (SLO : Sta Z Z.heap "java/lang/StringUTF16" "LO_BYTE_SHIFT" "I" (.int 8)) (SG1 : Sta Z Z.heap "java/lang/String" "COMPACT_STRINGS" "Z" (.int G1)) (hG : ¬ G1 = 0) (A_b : Arv Z h0 ba kb .char (1 : Int32) [(.int c0)] (.int (0 : Int32))) (r0 : ¬ c0 < 0 ∧ ¬ (65535 : Int32) < c0) (hbig : (255 : Int32) < c0) :
    Con l Z [] [x] (⟨"java/lang/String", "<init>", "([C)V"⟩ : MethodName) jdk_42_method_3_code 2 none [] ({ frames := 5, cells := 2, slots := 3, locals := 74 } : Room) #[(.ref x), (.ref ba)] h0 (fun v h' => v = none ∧ Keep h0 h' [x] ∧ ∃ ta kt, Exa Z h' x "java/lang/String" ∧ Fld Z h' x "java/lang/String" "value" "[B" (.ref ta) ∧ Fld Z h' x "java/lang/String" "coder" "B" (.int 1) ∧ Arv Z h' ta kt .byte (2 : Int32) [(.int (StrChars.lo8 c0)), (.int (StrChars.hi8 c0))] (.int (0 : Int32))) := by
  refine Con.mk (plainFor_of_name pn_1) hEL hE0 (allS E_x.lt all0) ?_
  intro p e s m below meth c T0 hby hml hret hnm W0
  rw [(show entryFrame m #[(.ref x), (.ref ba)] 2 = mkF m 0 #[.val (.ref x), .val (.ref ba)] [] from by first | (simp [entryFrame, mkF, argsToLocals, Value.category]; done) | rfl)]
  refine Go.by (fun t9_ q9_ => XS.aloadN W0.here W0.hx rfl (hb hby dc_jdk_42_method_3_code_0) rfl rfl (XS.aloadN W0.here W0.hx rfl (hb hby dc_jdk_42_method_3_code_1) rfl rfl (XS.iconst W0.here W0.hx rfl (hb hby dc_jdk_42_method_3_code_2) (XS.aloadN W0.here W0.hx rfl (hb hby dc_jdk_42_method_3_code_3) rfl rfl q9_)))) ?_
  show Go p e below s Z [] _ _ _ (T0.setTop (mkF m 4 #[.val (.ref x), .val (.ref ba)] [(.ref ba), (.int (0 : Int32)), (.ref ba), (.ref x)]))
  refine W0.alen A_b (hb hby dc_jdk_42_method_3_code_4) ?_
  show Go p e below s Z [] _ _ _ (T0.setTop (mkF m 5 #[.val (.ref x), .val (.ref ba)] [(.int (1 : Int32)), (.int (0 : Int32)), (.ref ba), (.ref x)]))
  refine Go.by (fun t9_ q9_ => XS.aconstNull W0.here W0.hx rfl (hb hby dc_jdk_42_method_3_code_5) q9_) ?_
  show Go p e below s Z [] _ _ _ (T0.setTop (mkF m 6 #[.val (.ref x), .val (.ref ba)] [.null, (.int (1 : Int32)), (.int (0 : Int32)), (.ref ba), (.ref x)]))
  refine W0.callI (y := (⟨"java/lang/String", "<init>", "([CIILjava/lang/Void;)V"⟩ : MethodName)) rfl (wd7 hw) (wd8 hw) (wd3 hw) (wd10 hw) (by decide) (a := x) (c_s4_1 l Z a0 hw hEL h0 hE0 x ba kb c0 G1 E_x FV FC z_x SAD SHI SLO SG1 hG A_b r0 hbig) (allS (List.mem_of_getElem? (i := 0) rfl) all0) (by decide) (by decide) (k' := 2) (n' := 3) rfl rfl (by decide) (by decide) (by rw [hml]; rfl) (argsL := [(.ref ba), (.int (0 : Int32)), (.int (1 : Int32)), .null]) (rest := []) (lenOf pd_7 rfl) rfl rfl (Wt := 0) (Nat.le_of_eq rfl) (hb hby dc_jdk_42_method_3_code_6) ?_
  intro v_ T79 h81 W80 hq_
  obtain ⟨rfl, K1, S1⟩ := hq_
  show Go p e below s Z [] _ _ _ (T79.setTop (mkF m 9 #[.val (.ref x), .val (.ref ba)] []))
  exact W80.retV (by decide) (by decide) hret (hb hby dc_jdk_42_method_3_code_9) ⟨rfl, K1, S1⟩
set_option maxRecDepth 65536 in
set_option maxHeartbeats 40000000 in
theorem c_nbl2 (l : Launch) (Z : State) (a0 : Array Value) (hw : ∀ d ∈ tables_1, d.before a0 Z = true) (hEL : EW Z a0 []) (h0 : Heap) (hE0 : Ext Z.heap h0)   :
    Con l Z [] [] (⟨"java/lang/StringUTF16", "newBytesLength", "(I)I"⟩ : MethodName) jdk_52_method_3_code 1 (some .int) [] ({ frames := 0, cells := 0, slots := 0, locals := 0 } : Room) #[(.int (2 : Int32))] h0 (fun v h' => v = (some (.int (4 : Int32))) ∧ h' = h0) := by
  refine Con.mk (plainFor_of_name pn_0) hEL hE0 (fun x hx => by cases hx) ?_
  intro p e s m below meth c T0 hby hml hret hnm W0
  rw [(show entryFrame m #[(.int (2 : Int32))] 1 = mkF m 0 #[.val (.int (2 : Int32))] [] from by first | (simp [entryFrame, mkF, argsToLocals, Value.category]; done) | rfl)]
  refine Go.by (fun t9_ q9_ => XS.iloadN W0.here W0.hx rfl (hb hby dc_jdk_52_method_3_code_0) rfl q9_) ?_
  show Go p e below s Z [] _ _ _ (T0.setTop (mkF m 1 #[.val (.int (2 : Int32))] [(.int (2 : Int32))]))
  refine Go.by (fun t9_ q9_ => XS.ifYes W0.here W0.hx rfl (pc0 := 1) (pc' := 12) rfl (hb hby dc_jdk_52_method_3_code_1) rfl ((if0 _ _).trans (flt (by decide)).2.1) (by decide) (by decide) q9_) ?_
  show Go p e below s Z [] _ _ _ (T0.setTop (mkF m 12 #[.val (.int (2 : Int32))] []))
  refine Go.by (fun t9_ q9_ => XS.iloadN W0.here W0.hx rfl (hb hby dc_jdk_52_method_3_code_12) rfl q9_) ?_
  show Go p e below s Z [] _ _ _ (T0.setTop (mkF m 13 #[.val (.int (2 : Int32))] [(.int (2 : Int32))]))
  refine W0.ldcI (wd88 hw) (hb hby dc_jdk_52_method_3_code_13) ?_
  show Go p e below s Z [] _ _ _ (T0.setTop (mkF m 15 #[.val (.int (2 : Int32))] [(.int (1073741823 : Int32)), (.int (2 : Int32))]))
  refine Go.by (fun t9_ q9_ => XS.icmpYes W0.here W0.hx rfl (pc0 := 15) (pc' := 55) rfl (hb hby dc_jdk_52_method_3_code_15) rfl (tlt (by decide)).1 (by decide) (by decide) q9_) ?_
  show Go p e below s Z [] _ _ _ (T0.setTop (mkF m 55 #[.val (.int (2 : Int32))] []))
  refine Go.by (fun t9_ q9_ => XS.iloadN W0.here W0.hx rfl (hb hby dc_jdk_52_method_3_code_55) rfl (XS.iconst W0.here W0.hx rfl (hb hby dc_jdk_52_method_3_code_56) (XS.ishl W0.here W0.hx rfl (hb hby dc_jdk_52_method_3_code_57) rfl q9_))) ?_
  show Go p e below s Z [] _ _ _ (T0.setTop (mkF m 58 #[.val (.int (2 : Int32))] [(.int ((2 : Int32) <<< ((1 : Int32) &&& 31)))]))
  rw [show ((2 : Int32) <<< ((1 : Int32) &&& 31)) = (4 : Int32) from by decide]
  show Go p e below s Z [] _ _ _ (T0.setTop (mkF m 58 #[.val (.int (2 : Int32))] [(.int (4 : Int32))]))
  exact W0.retI (by decide) (by decide) hret (hb hby dc_jdk_52_method_3_code_58) ⟨rfl, rfl⟩
set_option maxRecDepth 65536 in
set_option maxHeartbeats 40000000 in
theorem c_nbf2 (l : Launch) (Z : State) (a0 : Array Value) (hw : ∀ d ∈ tables_1, d.before a0 Z = true) (hEL : EW Z a0 []) (h0 : Heap) (hE0 : Ext Z.heap h0)   :
    Con l Z [] [] (⟨"java/lang/StringUTF16", "newBytesFor", "(I)[B"⟩ : MethodName) jdk_52_method_2_code 1 (some (.array .byte)) [] ({ frames := 1, cells := 1, slots := 4, locals := 12 } : Room) #[(.int (2 : Int32))] h0 (fun v h' => ∃ ta kt, v = some (.ref ta) ∧ Ext h0 h' ∧ Z.heap.size ≤ ta ∧ h0.size = ta ∧ Exa Z h' ta "[B" ∧ Arv Z h' ta kt .byte (4 : Int32) [(.int (0 : Int32)), (.int (0 : Int32)), (.int (0 : Int32)), (.int (0 : Int32))] (.int (0 : Int32))) := by
  refine Con.mk (plainFor_of_name pn_0) hEL hE0 (fun x hx => by cases hx) ?_
  intro p e s m below meth c T0 hby hml hret hnm W0
  rw [(show entryFrame m #[(.int (2 : Int32))] 1 = mkF m 0 #[.val (.int (2 : Int32))] [] from by first | (simp [entryFrame, mkF, argsToLocals, Value.category]; done) | rfl)]
  refine Go.by (fun t9_ q9_ => XS.iloadN W0.here W0.hx rfl (hb hby dc_jdk_52_method_2_code_0) rfl q9_) ?_
  show Go p e below s Z [] _ _ _ (T0.setTop (mkF m 1 #[.val (.int (2 : Int32))] [(.int (2 : Int32))]))
  refine W0.callSp (y := (⟨"java/lang/StringUTF16", "newBytesLength", "(I)I"⟩ : MethodName)) (wd85 hw) (wd86 hw) (wd17 hw) (wd87 hw) (by decide) (c_nbl2 l Z a0 hw hEL h0 hE0) all0 (by decide) (by decide) (k' := 0) (n' := 0) rfl rfl (by decide) (by decide) (by rw [hml]; rfl) (argsL := [(.int (2 : Int32))]) (rest := []) (lenOf pd_0 rfl) rfl rfl (Wt := 0) (Nat.le_of_eq rfl) (hb hby dc_jdk_52_method_2_code_1) ?_
  intro T82 W83
  show Go p e below s Z [] _ _ _ (T82.setTop (mkF m 4 #[.val (.int (2 : Int32))] [(.int (4 : Int32))]))
  refine W83.newp (aty := .byte) (wd19 hw) (hb hby dc_jdk_52_method_2_code_4) (by decide) (cap := 4) (by decide) (by decide) (k' := 1) (n' := 4) rfl rfl (by decide) (by decide) (ad := "[B") rfl ?_
  intro T84 h85 ta k_ta W86 E87 g_ta z_ta A_ta V_ta
  have V1_ta : Arv Z h85 ta k_ta .byte (4 : Int32) [(.int (0 : Int32)), (.int (0 : Int32)), (.int (0 : Int32)), (.int (0 : Int32))] (.int (0 : Int32)) := V_ta.pad (pad_rep [] (.int (0 : Int32)) 4)
  show Go p e below s Z [] _ _ _ (T84.setTop (mkF m 6 #[.val (.int (2 : Int32))] [(.ref ta)]))
  exact W86.retA (by decide) (by decide) hret rfl rfl (hb hby dc_jdk_52_method_2_code_6) ⟨ta, k_ta, rfl, E87, z_ta, g_ta, A_ta, V1_ta⟩
set_option maxRecDepth 65536 in
set_option maxHeartbeats 40000000 in
theorem c_put2_0 (l : Launch) (Z : State) (a0 : Array Value) (hw : ∀ d ∈ tables_1, d.before a0 Z = true) (hEL : EW Z a0 []) (h0 : Heap) (hE0 : Ext Z.heap h0) (ta : Addr) (k_ta : ClassId) (b0 b1 b2 b3 : Value) (cc : Int32) (SAD : Sta Z Z.heap "java/lang/StringUTF16" "$assertionsDisabled" "Z" (.int 1)) (SHI : Sta Z Z.heap "java/lang/StringUTF16" "HI_BYTE_SHIFT" "I" (.int 0)) (SLO : Sta Z Z.heap "java/lang/StringUTF16" "LO_BYTE_SHIFT" "I" (.int 8)) (A_t : Arv Z h0 ta k_ta .byte (4 : Int32) [b0, b1, b2, b3] (.int (0 : Int32))) (z_ta : Z.heap.size ≤ ta) :
    Con l Z [] [ta] (⟨"java/lang/StringUTF16", "putChar", "([BII)V"⟩ : MethodName) jdk_52_method_4_code 3 none [] ({ frames := 0, cells := 0, slots := 0, locals := 0 } : Room) #[(.ref ta), (.int (0 : Int32)), (.int cc)] h0 (fun v h' => v = none ∧ Keep h0 h' [ta] ∧ Arv Z h' ta k_ta .byte (4 : Int32) [(.int (StrChars.lo8 cc)), (.int (StrChars.hi8 cc)), b2, b3] (.int (0 : Int32))) := by
  refine Con.mk (plainFor_of_name pn_0) hEL hE0 (allS A_t.lt all0) ?_
  intro p e s m below meth c T0 hby hml hret hnm W0
  rw [(show entryFrame m #[(.ref ta), (.int (0 : Int32)), (.int cc)] 3 = mkF m 0 #[.val (.ref ta), .val (.int (0 : Int32)), .val (.int cc)] [] from by first | (simp [entryFrame, mkF, argsToLocals, Value.category]; done) | rfl)]
  refine W0.gets (host := "") (Or.inl (wd92 hw)) Via.refl (SAD.ext W0.old) (hb hby dc_jdk_52_method_4_code_0) ?_
  intro T88 W89
  show Go p e below s Z [] _ _ _ (T88.setTop (mkF m 3 #[.val (.ref ta), .val (.int (0 : Int32)), .val (.int cc)] [(.int (1 : Int32))]))
  refine Go.by (fun t9_ q9_ => XS.ifYes W89.here W89.hx rfl (pc0 := 3) (pc' := 28) rfl (hb hby dc_jdk_52_method_4_code_3) rfl ((if0 _ _).trans (feq (by decide)).2) (by decide) (by decide) q9_) ?_
  show Go p e below s Z [] _ _ _ (T88.setTop (mkF m 28 #[.val (.ref ta), .val (.int (0 : Int32)), .val (.int cc)] []))
  refine Go.by (fun t9_ q9_ => XS.iloadN W89.here W89.hx rfl (hb hby dc_jdk_52_method_4_code_28) rfl (XS.iconst W89.here W89.hx rfl (hb hby dc_jdk_52_method_4_code_29) (XS.ishl W89.here W89.hx rfl (hb hby dc_jdk_52_method_4_code_30) rfl (XS.istoreN W89.here W89.hx rfl (hb hby dc_jdk_52_method_4_code_31) rfl (l' := #[.val (.ref ta), .val (.int ((0 : Int32) <<< ((1 : Int32) &&& 31))), .val (.int cc)]) rfl q9_)))) ?_
  show Go p e below s Z [] _ _ _ (T88.setTop (mkF m 32 #[.val (.ref ta), .val (.int ((0 : Int32) <<< ((1 : Int32) &&& 31))), .val (.int cc)] []))
  rw [show ((0 : Int32) <<< ((1 : Int32) &&& 31)) = (0 : Int32) from by decide]
  show Go p e below s Z [] _ _ _ (T88.setTop (mkF m 32 #[.val (.ref ta), .val (.int (0 : Int32)), .val (.int cc)] []))
  refine Go.by (fun t9_ q9_ => XS.aloadN W89.here W89.hx rfl (hb hby dc_jdk_52_method_4_code_32) rfl rfl (XS.iloadN W89.here W89.hx rfl (hb hby dc_jdk_52_method_4_code_33) rfl (XS.iinc W89.here W89.hx rfl (hb hby dc_jdk_52_method_4_code_34) rfl (l' := #[.val (.ref ta), .val (.int ((0 : Int32) + (1 : Int32))), .val (.int cc)]) rfl q9_))) ?_
  show Go p e below s Z [] _ _ _ (T88.setTop (mkF m 37 #[.val (.ref ta), .val (.int ((0 : Int32) + (1 : Int32))), .val (.int cc)] [(.int (0 : Int32)), (.ref ta)]))
  show Go p e below s Z [] _ _ _ (T88.setTop (mkF m 37 #[.val (.ref ta), .val (.int (1 : Int32)), .val (.int cc)] [(.int (0 : Int32)), (.ref ta)]))
  refine Go.by (fun t9_ q9_ => XS.iloadN W89.here W89.hx rfl (hb hby dc_jdk_52_method_4_code_37) rfl q9_) ?_
  show Go p e below s Z [] _ _ _ (T88.setTop (mkF m 38 #[.val (.ref ta), .val (.int (1 : Int32)), .val (.int cc)] [(.int cc), (.int (0 : Int32)), (.ref ta)]))
  refine W89.gets (host := "") (Or.inl (wd93 hw)) Via.refl (SHI.ext W89.old) (hb hby dc_jdk_52_method_4_code_38) ?_
  intro T90 W91
  show Go p e below s Z [] _ _ _ (T90.setTop (mkF m 41 #[.val (.ref ta), .val (.int (1 : Int32)), .val (.int cc)] [(.int (0 : Int32)), (.int cc), (.int (0 : Int32)), (.ref ta)]))
  refine Go.by (fun t9_ q9_ => XS.ishr W91.here W91.hx rfl (hb hby dc_jdk_52_method_4_code_41) rfl (XS.i2b W91.here W91.hx rfl (hb hby dc_jdk_52_method_4_code_42) rfl q9_)) ?_
  show Go p e below s Z [] _ _ _ (T90.setTop (mkF m 43 #[.val (.ref ta), .val (.int (1 : Int32)), .val (.int cc)] [(.int ((cc >>> ((0 : Int32) &&& 31)).toInt8.toInt32)), (.int (0 : Int32)), (.ref ta)]))
  refine W91.bast A_t ⟨by decide, by decide⟩ (i := 0) rfl (by simp) (v' := (StrChars.lo8 cc)) (by rw [StrChars.shr0]; simp [nar, StrChars.lo8, lo8_lo8]) z_ta (List.mem_of_getElem? (i := 0) rfl) (hb hby dc_jdk_52_method_4_code_43) ?_
  intro T92 h93 W94 Wr95 V96_ta'
  have V96_ta : Arv Z h93 ta k_ta .byte (4 : Int32) [(.int (StrChars.lo8 cc)), b1, b2, b3] (.int (0 : Int32)) := V96_ta'
  show Go p e below s Z [] _ _ _ (T92.setTop (mkF m 44 #[.val (.ref ta), .val (.int (1 : Int32)), .val (.int cc)] []))
  refine Go.by (fun t9_ q9_ => XS.aloadN W94.here W94.hx rfl (hb hby dc_jdk_52_method_4_code_44) rfl rfl (XS.iloadN W94.here W94.hx rfl (hb hby dc_jdk_52_method_4_code_45) rfl (XS.iloadN W94.here W94.hx rfl (hb hby dc_jdk_52_method_4_code_46) rfl q9_))) ?_
  show Go p e below s Z [] _ _ _ (T92.setTop (mkF m 47 #[.val (.ref ta), .val (.int (1 : Int32)), .val (.int cc)] [(.int cc), (.int (1 : Int32)), (.ref ta)]))
  refine W94.gets (host := "") (Or.inl (wd94 hw)) Via.refl (SLO.ext W94.old) (hb hby dc_jdk_52_method_4_code_47) ?_
  intro T97 W98
  show Go p e below s Z [] _ _ _ (T97.setTop (mkF m 50 #[.val (.ref ta), .val (.int (1 : Int32)), .val (.int cc)] [(.int (8 : Int32)), (.int cc), (.int (1 : Int32)), (.ref ta)]))
  refine Go.by (fun t9_ q9_ => XS.ishr W98.here W98.hx rfl (hb hby dc_jdk_52_method_4_code_50) rfl (XS.i2b W98.here W98.hx rfl (hb hby dc_jdk_52_method_4_code_51) rfl q9_)) ?_
  show Go p e below s Z [] _ _ _ (T97.setTop (mkF m 52 #[.val (.ref ta), .val (.int (1 : Int32)), .val (.int cc)] [(.int ((cc >>> ((8 : Int32) &&& 31)).toInt8.toInt32)), (.int (1 : Int32)), (.ref ta)]))
  refine W98.bast V96_ta ⟨by decide, by decide⟩ (i := 1) rfl (by simp) (v' := (StrChars.hi8 cc)) (by simp [nar, StrChars.hi8, StrChars.lo8, lo8_lo8]) z_ta (List.mem_of_getElem? (i := 0) rfl) (hb hby dc_jdk_52_method_4_code_52) ?_
  intro T99 h100 W101 Wr102 V103_ta'
  have V103_ta : Arv Z h100 ta k_ta .byte (4 : Int32) [(.int (StrChars.lo8 cc)), (.int (StrChars.hi8 cc)), b2, b3] (.int (0 : Int32)) := V103_ta'
  show Go p e below s Z [] _ _ _ (T99.setTop (mkF m 53 #[.val (.ref ta), .val (.int (1 : Int32)), .val (.int cc)] []))
  exact W101.retV (by decide) (by decide) hret (hb hby dc_jdk_52_method_4_code_53) ⟨rfl, (((Keep.refl h0 [ta]).wr Wr95 (Or.inl (List.mem_of_getElem? (i := 0) rfl))).wr Wr102 (Or.inl (List.mem_of_getElem? (i := 0) rfl))), V103_ta⟩
set_option maxRecDepth 65536 in
set_option maxHeartbeats 40000000 in
theorem c_get2_0 (l : Launch) (Z : State) (a0 : Array Value) (hw : ∀ d ∈ tables_1, d.before a0 Z = true) (hEL : EW Z a0 []) (h0 : Heap) (hE0 : Ext Z.heap h0) (ta : Addr) (k_ta : ClassId) (vs : List Value) (uu vv cc : Int32) (SAD : Sta Z Z.heap "java/lang/StringUTF16" "$assertionsDisabled" "Z" (.int 1)) (SHI : Sta Z Z.heap "java/lang/StringUTF16" "HI_BYTE_SHIFT" "I" (.int 0)) (SLO : Sta Z Z.heap "java/lang/StringUTF16" "LO_BYTE_SHIFT" "I" (.int 8)) (A_t : Arv Z h0 ta k_ta .byte (4 : Int32) vs (.int (0 : Int32))) (hu : vs.getD 0 (.int (0 : Int32)) = .int uu) (hv : vs.getD 1 (.int (0 : Int32)) = .int vv) (hp : StrChars.pairCh uu vv = cc) (r_c : ¬ cc < 0 ∧ ¬ (65535 : Int32) < cc) :
    Con l Z [] [] (⟨"java/lang/StringUTF16", "getChar", "([BI)C"⟩ : MethodName) jdk_52_method_5_code 2 (some .char) [] ({ frames := 0, cells := 0, slots := 0, locals := 0 } : Room) #[(.ref ta), (.int (0 : Int32))] h0 (fun v h' => v = (some (.int cc)) ∧ h' = h0) := by
  refine Con.mk (plainFor_of_name pn_0) hEL hE0 (fun x hx => by cases hx) ?_
  intro p e s m below meth c T0 hby hml hret hnm W0
  rw [(show entryFrame m #[(.ref ta), (.int (0 : Int32))] 2 = mkF m 0 #[.val (.ref ta), .val (.int (0 : Int32))] [] from by first | (simp [entryFrame, mkF, argsToLocals, Value.category]; done) | rfl)]
  refine W0.gets (host := "") (Or.inl (wd92 hw)) Via.refl (SAD.ext W0.old) (hb hby dc_jdk_52_method_5_code_0) ?_
  intro T104 W105
  show Go p e below s Z [] _ _ _ (T104.setTop (mkF m 3 #[.val (.ref ta), .val (.int (0 : Int32))] [(.int (1 : Int32))]))
  refine Go.by (fun t9_ q9_ => XS.ifYes W105.here W105.hx rfl (pc0 := 3) (pc' := 28) rfl (hb hby dc_jdk_52_method_5_code_3) rfl ((if0 _ _).trans (feq (by decide)).2) (by decide) (by decide) q9_) ?_
  show Go p e below s Z [] _ _ _ (T104.setTop (mkF m 28 #[.val (.ref ta), .val (.int (0 : Int32))] []))
  refine Go.by (fun t9_ q9_ => XS.iloadN W105.here W105.hx rfl (hb hby dc_jdk_52_method_5_code_28) rfl (XS.iconst W105.here W105.hx rfl (hb hby dc_jdk_52_method_5_code_29) (XS.ishl W105.here W105.hx rfl (hb hby dc_jdk_52_method_5_code_30) rfl (XS.istoreN W105.here W105.hx rfl (hb hby dc_jdk_52_method_5_code_31) rfl (l' := #[.val (.ref ta), .val (.int ((0 : Int32) <<< ((1 : Int32) &&& 31)))]) rfl q9_)))) ?_
  show Go p e below s Z [] _ _ _ (T104.setTop (mkF m 32 #[.val (.ref ta), .val (.int ((0 : Int32) <<< ((1 : Int32) &&& 31)))] []))
  rw [show ((0 : Int32) <<< ((1 : Int32) &&& 31)) = (0 : Int32) from by decide]
  show Go p e below s Z [] _ _ _ (T104.setTop (mkF m 32 #[.val (.ref ta), .val (.int (0 : Int32))] []))
  refine Go.by (fun t9_ q9_ => XS.aloadN W105.here W105.hx rfl (hb hby dc_jdk_52_method_5_code_32) rfl rfl (XS.iloadN W105.here W105.hx rfl (hb hby dc_jdk_52_method_5_code_33) rfl (XS.iinc W105.here W105.hx rfl (hb hby dc_jdk_52_method_5_code_34) rfl (l' := #[.val (.ref ta), .val (.int ((0 : Int32) + (1 : Int32)))]) rfl q9_))) ?_
  show Go p e below s Z [] _ _ _ (T104.setTop (mkF m 37 #[.val (.ref ta), .val (.int ((0 : Int32) + (1 : Int32)))] [(.int (0 : Int32)), (.ref ta)]))
  show Go p e below s Z [] _ _ _ (T104.setTop (mkF m 37 #[.val (.ref ta), .val (.int (1 : Int32))] [(.int (0 : Int32)), (.ref ta)]))
  refine W105.bald A_t ⟨by decide, by decide⟩ (v := (.int uu)) hu (hb hby dc_jdk_52_method_5_code_37) ?_
  show Go p e below s Z [] _ _ _ (T104.setTop (mkF m 38 #[.val (.ref ta), .val (.int (1 : Int32))] [(.int uu)]))
  refine Go.by (fun t9_ q9_ => XS.sipush W105.here W105.hx rfl (hb hby dc_jdk_52_method_5_code_38) (XS.iand W105.here W105.hx rfl (hb hby dc_jdk_52_method_5_code_41) rfl q9_)) ?_
  show Go p e below s Z [] _ _ _ (T104.setTop (mkF m 42 #[.val (.ref ta), .val (.int (1 : Int32))] [(.int (uu &&& (255 : Int32)))]))
  refine W105.gets (host := "") (Or.inl (wd93 hw)) Via.refl (SHI.ext W105.old) (hb hby dc_jdk_52_method_5_code_42) ?_
  intro T106 W107
  show Go p e below s Z [] _ _ _ (T106.setTop (mkF m 45 #[.val (.ref ta), .val (.int (1 : Int32))] [(.int (0 : Int32)), (.int (uu &&& (255 : Int32)))]))
  refine Go.by (fun t9_ q9_ => XS.ishl W107.here W107.hx rfl (hb hby dc_jdk_52_method_5_code_45) rfl (XS.aloadN W107.here W107.hx rfl (hb hby dc_jdk_52_method_5_code_46) rfl rfl (XS.iloadN W107.here W107.hx rfl (hb hby dc_jdk_52_method_5_code_47) rfl q9_))) ?_
  show Go p e below s Z [] _ _ _ (T106.setTop (mkF m 48 #[.val (.ref ta), .val (.int (1 : Int32))] [(.int (1 : Int32)), (.ref ta), (.int ((uu &&& (255 : Int32)) <<< ((0 : Int32) &&& 31)))]))
  refine W107.bald A_t ⟨by decide, by decide⟩ (v := (.int vv)) hv (hb hby dc_jdk_52_method_5_code_48) ?_
  show Go p e below s Z [] _ _ _ (T106.setTop (mkF m 49 #[.val (.ref ta), .val (.int (1 : Int32))] [(.int vv), (.int ((uu &&& (255 : Int32)) <<< ((0 : Int32) &&& 31)))]))
  refine Go.by (fun t9_ q9_ => XS.sipush W107.here W107.hx rfl (hb hby dc_jdk_52_method_5_code_49) (XS.iand W107.here W107.hx rfl (hb hby dc_jdk_52_method_5_code_52) rfl q9_)) ?_
  show Go p e below s Z [] _ _ _ (T106.setTop (mkF m 53 #[.val (.ref ta), .val (.int (1 : Int32))] [(.int (vv &&& (255 : Int32))), (.int ((uu &&& (255 : Int32)) <<< ((0 : Int32) &&& 31)))]))
  refine W107.gets (host := "") (Or.inl (wd94 hw)) Via.refl (SLO.ext W107.old) (hb hby dc_jdk_52_method_5_code_53) ?_
  intro T108 W109
  show Go p e below s Z [] _ _ _ (T108.setTop (mkF m 56 #[.val (.ref ta), .val (.int (1 : Int32))] [(.int (8 : Int32)), (.int (vv &&& (255 : Int32))), (.int ((uu &&& (255 : Int32)) <<< ((0 : Int32) &&& 31)))]))
  refine Go.by (fun t9_ q9_ => XS.ishl W109.here W109.hx rfl (hb hby dc_jdk_52_method_5_code_56) rfl (XS.ior W109.here W109.hx rfl (hb hby dc_jdk_52_method_5_code_57) rfl (XS.i2c W109.here W109.hx rfl (hb hby dc_jdk_52_method_5_code_58) rfl q9_))) ?_
  show Go p e below s Z [] _ _ _ (T108.setTop (mkF m 59 #[.val (.ref ta), .val (.int (1 : Int32))] [(.int ((((uu &&& (255 : Int32)) <<< ((0 : Int32) &&& 31)) ||| ((vv &&& (255 : Int32)) <<< ((8 : Int32) &&& 31))).toUInt32.toUInt16.toUInt32.toInt32))]))
  exact W109.retN (z' := cc) (by decide) (by decide) hret (by simp) (hb hby dc_jdk_52_method_5_code_59) (by show nar .char (StrChars.pairCh uu vv) = cc; rw [hp]; exact nar_id r_c) ⟨rfl, rfl⟩
set_option maxRecDepth 65536 in
set_option maxHeartbeats 40000000 in
theorem c_put2_1 (l : Launch) (Z : State) (a0 : Array Value) (hw : ∀ d ∈ tables_1, d.before a0 Z = true) (hEL : EW Z a0 []) (h0 : Heap) (hE0 : Ext Z.heap h0) (ta : Addr) (k_ta : ClassId) (b0 b1 b2 b3 : Value) (cc : Int32) (SAD : Sta Z Z.heap "java/lang/StringUTF16" "$assertionsDisabled" "Z" (.int 1)) (SHI : Sta Z Z.heap "java/lang/StringUTF16" "HI_BYTE_SHIFT" "I" (.int 0)) (SLO : Sta Z Z.heap "java/lang/StringUTF16" "LO_BYTE_SHIFT" "I" (.int 8)) (A_t : Arv Z h0 ta k_ta .byte (4 : Int32) [b0, b1, b2, b3] (.int (0 : Int32))) (z_ta : Z.heap.size ≤ ta) :
    Con l Z [] [ta] (⟨"java/lang/StringUTF16", "putChar", "([BII)V"⟩ : MethodName) jdk_52_method_4_code 3 none [] ({ frames := 0, cells := 0, slots := 0, locals := 0 } : Room) #[(.ref ta), (.int (1 : Int32)), (.int cc)] h0 (fun v h' => v = none ∧ Keep h0 h' [ta] ∧ Arv Z h' ta k_ta .byte (4 : Int32) [b0, b1, (.int (StrChars.lo8 cc)), (.int (StrChars.hi8 cc))] (.int (0 : Int32))) := by
  refine Con.mk (plainFor_of_name pn_0) hEL hE0 (allS A_t.lt all0) ?_
  intro p e s m below meth c T0 hby hml hret hnm W0
  rw [(show entryFrame m #[(.ref ta), (.int (1 : Int32)), (.int cc)] 3 = mkF m 0 #[.val (.ref ta), .val (.int (1 : Int32)), .val (.int cc)] [] from by first | (simp [entryFrame, mkF, argsToLocals, Value.category]; done) | rfl)]
  refine W0.gets (host := "") (Or.inl (wd92 hw)) Via.refl (SAD.ext W0.old) (hb hby dc_jdk_52_method_4_code_0) ?_
  intro T110 W111
  show Go p e below s Z [] _ _ _ (T110.setTop (mkF m 3 #[.val (.ref ta), .val (.int (1 : Int32)), .val (.int cc)] [(.int (1 : Int32))]))
  refine Go.by (fun t9_ q9_ => XS.ifYes W111.here W111.hx rfl (pc0 := 3) (pc' := 28) rfl (hb hby dc_jdk_52_method_4_code_3) rfl ((if0 _ _).trans (feq (by decide)).2) (by decide) (by decide) q9_) ?_
  show Go p e below s Z [] _ _ _ (T110.setTop (mkF m 28 #[.val (.ref ta), .val (.int (1 : Int32)), .val (.int cc)] []))
  refine Go.by (fun t9_ q9_ => XS.iloadN W111.here W111.hx rfl (hb hby dc_jdk_52_method_4_code_28) rfl (XS.iconst W111.here W111.hx rfl (hb hby dc_jdk_52_method_4_code_29) (XS.ishl W111.here W111.hx rfl (hb hby dc_jdk_52_method_4_code_30) rfl (XS.istoreN W111.here W111.hx rfl (hb hby dc_jdk_52_method_4_code_31) rfl (l' := #[.val (.ref ta), .val (.int ((1 : Int32) <<< ((1 : Int32) &&& 31))), .val (.int cc)]) rfl q9_)))) ?_
  show Go p e below s Z [] _ _ _ (T110.setTop (mkF m 32 #[.val (.ref ta), .val (.int ((1 : Int32) <<< ((1 : Int32) &&& 31))), .val (.int cc)] []))
  rw [show ((1 : Int32) <<< ((1 : Int32) &&& 31)) = (2 : Int32) from by decide]
  show Go p e below s Z [] _ _ _ (T110.setTop (mkF m 32 #[.val (.ref ta), .val (.int (2 : Int32)), .val (.int cc)] []))
  refine Go.by (fun t9_ q9_ => XS.aloadN W111.here W111.hx rfl (hb hby dc_jdk_52_method_4_code_32) rfl rfl (XS.iloadN W111.here W111.hx rfl (hb hby dc_jdk_52_method_4_code_33) rfl (XS.iinc W111.here W111.hx rfl (hb hby dc_jdk_52_method_4_code_34) rfl (l' := #[.val (.ref ta), .val (.int ((2 : Int32) + (1 : Int32))), .val (.int cc)]) rfl q9_))) ?_
  show Go p e below s Z [] _ _ _ (T110.setTop (mkF m 37 #[.val (.ref ta), .val (.int ((2 : Int32) + (1 : Int32))), .val (.int cc)] [(.int (2 : Int32)), (.ref ta)]))
  show Go p e below s Z [] _ _ _ (T110.setTop (mkF m 37 #[.val (.ref ta), .val (.int (3 : Int32)), .val (.int cc)] [(.int (2 : Int32)), (.ref ta)]))
  refine Go.by (fun t9_ q9_ => XS.iloadN W111.here W111.hx rfl (hb hby dc_jdk_52_method_4_code_37) rfl q9_) ?_
  show Go p e below s Z [] _ _ _ (T110.setTop (mkF m 38 #[.val (.ref ta), .val (.int (3 : Int32)), .val (.int cc)] [(.int cc), (.int (2 : Int32)), (.ref ta)]))
  refine W111.gets (host := "") (Or.inl (wd93 hw)) Via.refl (SHI.ext W111.old) (hb hby dc_jdk_52_method_4_code_38) ?_
  intro T112 W113
  show Go p e below s Z [] _ _ _ (T112.setTop (mkF m 41 #[.val (.ref ta), .val (.int (3 : Int32)), .val (.int cc)] [(.int (0 : Int32)), (.int cc), (.int (2 : Int32)), (.ref ta)]))
  refine Go.by (fun t9_ q9_ => XS.ishr W113.here W113.hx rfl (hb hby dc_jdk_52_method_4_code_41) rfl (XS.i2b W113.here W113.hx rfl (hb hby dc_jdk_52_method_4_code_42) rfl q9_)) ?_
  show Go p e below s Z [] _ _ _ (T112.setTop (mkF m 43 #[.val (.ref ta), .val (.int (3 : Int32)), .val (.int cc)] [(.int ((cc >>> ((0 : Int32) &&& 31)).toInt8.toInt32)), (.int (2 : Int32)), (.ref ta)]))
  refine W113.bast A_t ⟨by decide, by decide⟩ (i := 2) rfl (by simp) (v' := (StrChars.lo8 cc)) (by rw [StrChars.shr0]; simp [nar, StrChars.lo8, lo8_lo8]) z_ta (List.mem_of_getElem? (i := 0) rfl) (hb hby dc_jdk_52_method_4_code_43) ?_
  intro T114 h115 W116 Wr117 V118_ta'
  have V118_ta : Arv Z h115 ta k_ta .byte (4 : Int32) [b0, b1, (.int (StrChars.lo8 cc)), b3] (.int (0 : Int32)) := V118_ta'
  show Go p e below s Z [] _ _ _ (T114.setTop (mkF m 44 #[.val (.ref ta), .val (.int (3 : Int32)), .val (.int cc)] []))
  refine Go.by (fun t9_ q9_ => XS.aloadN W116.here W116.hx rfl (hb hby dc_jdk_52_method_4_code_44) rfl rfl (XS.iloadN W116.here W116.hx rfl (hb hby dc_jdk_52_method_4_code_45) rfl (XS.iloadN W116.here W116.hx rfl (hb hby dc_jdk_52_method_4_code_46) rfl q9_))) ?_
  show Go p e below s Z [] _ _ _ (T114.setTop (mkF m 47 #[.val (.ref ta), .val (.int (3 : Int32)), .val (.int cc)] [(.int cc), (.int (3 : Int32)), (.ref ta)]))
  refine W116.gets (host := "") (Or.inl (wd94 hw)) Via.refl (SLO.ext W116.old) (hb hby dc_jdk_52_method_4_code_47) ?_
  intro T119 W120
  show Go p e below s Z [] _ _ _ (T119.setTop (mkF m 50 #[.val (.ref ta), .val (.int (3 : Int32)), .val (.int cc)] [(.int (8 : Int32)), (.int cc), (.int (3 : Int32)), (.ref ta)]))
  refine Go.by (fun t9_ q9_ => XS.ishr W120.here W120.hx rfl (hb hby dc_jdk_52_method_4_code_50) rfl (XS.i2b W120.here W120.hx rfl (hb hby dc_jdk_52_method_4_code_51) rfl q9_)) ?_
  show Go p e below s Z [] _ _ _ (T119.setTop (mkF m 52 #[.val (.ref ta), .val (.int (3 : Int32)), .val (.int cc)] [(.int ((cc >>> ((8 : Int32) &&& 31)).toInt8.toInt32)), (.int (3 : Int32)), (.ref ta)]))
  refine W120.bast V118_ta ⟨by decide, by decide⟩ (i := 3) rfl (by simp) (v' := (StrChars.hi8 cc)) (by simp [nar, StrChars.hi8, StrChars.lo8, lo8_lo8]) z_ta (List.mem_of_getElem? (i := 0) rfl) (hb hby dc_jdk_52_method_4_code_52) ?_
  intro T121 h122 W123 Wr124 V125_ta'
  have V125_ta : Arv Z h122 ta k_ta .byte (4 : Int32) [b0, b1, (.int (StrChars.lo8 cc)), (.int (StrChars.hi8 cc))] (.int (0 : Int32)) := V125_ta'
  show Go p e below s Z [] _ _ _ (T121.setTop (mkF m 53 #[.val (.ref ta), .val (.int (3 : Int32)), .val (.int cc)] []))
  exact W123.retV (by decide) (by decide) hret (hb hby dc_jdk_52_method_4_code_53) ⟨rfl, (((Keep.refl h0 [ta]).wr Wr117 (Or.inl (List.mem_of_getElem? (i := 0) rfl))).wr Wr124 (Or.inl (List.mem_of_getElem? (i := 0) rfl))), V125_ta⟩
set_option maxRecDepth 65536 in
set_option maxHeartbeats 40000000 in
theorem c_get2_1 (l : Launch) (Z : State) (a0 : Array Value) (hw : ∀ d ∈ tables_1, d.before a0 Z = true) (hEL : EW Z a0 []) (h0 : Heap) (hE0 : Ext Z.heap h0) (ta : Addr) (k_ta : ClassId) (vs : List Value) (uu vv cc : Int32) (SAD : Sta Z Z.heap "java/lang/StringUTF16" "$assertionsDisabled" "Z" (.int 1)) (SHI : Sta Z Z.heap "java/lang/StringUTF16" "HI_BYTE_SHIFT" "I" (.int 0)) (SLO : Sta Z Z.heap "java/lang/StringUTF16" "LO_BYTE_SHIFT" "I" (.int 8)) (A_t : Arv Z h0 ta k_ta .byte (4 : Int32) vs (.int (0 : Int32))) (hu : vs.getD 2 (.int (0 : Int32)) = .int uu) (hv : vs.getD 3 (.int (0 : Int32)) = .int vv) (hp : StrChars.pairCh uu vv = cc) (r_c : ¬ cc < 0 ∧ ¬ (65535 : Int32) < cc) :
    Con l Z [] [] (⟨"java/lang/StringUTF16", "getChar", "([BI)C"⟩ : MethodName) jdk_52_method_5_code 2 (some .char) [] ({ frames := 0, cells := 0, slots := 0, locals := 0 } : Room) #[(.ref ta), (.int (1 : Int32))] h0 (fun v h' => v = (some (.int cc)) ∧ h' = h0) := by
  refine Con.mk (plainFor_of_name pn_0) hEL hE0 (fun x hx => by cases hx) ?_
  intro p e s m below meth c T0 hby hml hret hnm W0
  rw [(show entryFrame m #[(.ref ta), (.int (1 : Int32))] 2 = mkF m 0 #[.val (.ref ta), .val (.int (1 : Int32))] [] from by first | (simp [entryFrame, mkF, argsToLocals, Value.category]; done) | rfl)]
  refine W0.gets (host := "") (Or.inl (wd92 hw)) Via.refl (SAD.ext W0.old) (hb hby dc_jdk_52_method_5_code_0) ?_
  intro T126 W127
  show Go p e below s Z [] _ _ _ (T126.setTop (mkF m 3 #[.val (.ref ta), .val (.int (1 : Int32))] [(.int (1 : Int32))]))
  refine Go.by (fun t9_ q9_ => XS.ifYes W127.here W127.hx rfl (pc0 := 3) (pc' := 28) rfl (hb hby dc_jdk_52_method_5_code_3) rfl ((if0 _ _).trans (feq (by decide)).2) (by decide) (by decide) q9_) ?_
  show Go p e below s Z [] _ _ _ (T126.setTop (mkF m 28 #[.val (.ref ta), .val (.int (1 : Int32))] []))
  refine Go.by (fun t9_ q9_ => XS.iloadN W127.here W127.hx rfl (hb hby dc_jdk_52_method_5_code_28) rfl (XS.iconst W127.here W127.hx rfl (hb hby dc_jdk_52_method_5_code_29) (XS.ishl W127.here W127.hx rfl (hb hby dc_jdk_52_method_5_code_30) rfl (XS.istoreN W127.here W127.hx rfl (hb hby dc_jdk_52_method_5_code_31) rfl (l' := #[.val (.ref ta), .val (.int ((1 : Int32) <<< ((1 : Int32) &&& 31)))]) rfl q9_)))) ?_
  show Go p e below s Z [] _ _ _ (T126.setTop (mkF m 32 #[.val (.ref ta), .val (.int ((1 : Int32) <<< ((1 : Int32) &&& 31)))] []))
  rw [show ((1 : Int32) <<< ((1 : Int32) &&& 31)) = (2 : Int32) from by decide]
  show Go p e below s Z [] _ _ _ (T126.setTop (mkF m 32 #[.val (.ref ta), .val (.int (2 : Int32))] []))
  refine Go.by (fun t9_ q9_ => XS.aloadN W127.here W127.hx rfl (hb hby dc_jdk_52_method_5_code_32) rfl rfl (XS.iloadN W127.here W127.hx rfl (hb hby dc_jdk_52_method_5_code_33) rfl (XS.iinc W127.here W127.hx rfl (hb hby dc_jdk_52_method_5_code_34) rfl (l' := #[.val (.ref ta), .val (.int ((2 : Int32) + (1 : Int32)))]) rfl q9_))) ?_
  show Go p e below s Z [] _ _ _ (T126.setTop (mkF m 37 #[.val (.ref ta), .val (.int ((2 : Int32) + (1 : Int32)))] [(.int (2 : Int32)), (.ref ta)]))
  show Go p e below s Z [] _ _ _ (T126.setTop (mkF m 37 #[.val (.ref ta), .val (.int (3 : Int32))] [(.int (2 : Int32)), (.ref ta)]))
  refine W127.bald A_t ⟨by decide, by decide⟩ (v := (.int uu)) hu (hb hby dc_jdk_52_method_5_code_37) ?_
  show Go p e below s Z [] _ _ _ (T126.setTop (mkF m 38 #[.val (.ref ta), .val (.int (3 : Int32))] [(.int uu)]))
  refine Go.by (fun t9_ q9_ => XS.sipush W127.here W127.hx rfl (hb hby dc_jdk_52_method_5_code_38) (XS.iand W127.here W127.hx rfl (hb hby dc_jdk_52_method_5_code_41) rfl q9_)) ?_
  show Go p e below s Z [] _ _ _ (T126.setTop (mkF m 42 #[.val (.ref ta), .val (.int (3 : Int32))] [(.int (uu &&& (255 : Int32)))]))
  refine W127.gets (host := "") (Or.inl (wd93 hw)) Via.refl (SHI.ext W127.old) (hb hby dc_jdk_52_method_5_code_42) ?_
  intro T128 W129
  show Go p e below s Z [] _ _ _ (T128.setTop (mkF m 45 #[.val (.ref ta), .val (.int (3 : Int32))] [(.int (0 : Int32)), (.int (uu &&& (255 : Int32)))]))
  refine Go.by (fun t9_ q9_ => XS.ishl W129.here W129.hx rfl (hb hby dc_jdk_52_method_5_code_45) rfl (XS.aloadN W129.here W129.hx rfl (hb hby dc_jdk_52_method_5_code_46) rfl rfl (XS.iloadN W129.here W129.hx rfl (hb hby dc_jdk_52_method_5_code_47) rfl q9_))) ?_
  show Go p e below s Z [] _ _ _ (T128.setTop (mkF m 48 #[.val (.ref ta), .val (.int (3 : Int32))] [(.int (3 : Int32)), (.ref ta), (.int ((uu &&& (255 : Int32)) <<< ((0 : Int32) &&& 31)))]))
  refine W129.bald A_t ⟨by decide, by decide⟩ (v := (.int vv)) hv (hb hby dc_jdk_52_method_5_code_48) ?_
  show Go p e below s Z [] _ _ _ (T128.setTop (mkF m 49 #[.val (.ref ta), .val (.int (3 : Int32))] [(.int vv), (.int ((uu &&& (255 : Int32)) <<< ((0 : Int32) &&& 31)))]))
  refine Go.by (fun t9_ q9_ => XS.sipush W129.here W129.hx rfl (hb hby dc_jdk_52_method_5_code_49) (XS.iand W129.here W129.hx rfl (hb hby dc_jdk_52_method_5_code_52) rfl q9_)) ?_
  show Go p e below s Z [] _ _ _ (T128.setTop (mkF m 53 #[.val (.ref ta), .val (.int (3 : Int32))] [(.int (vv &&& (255 : Int32))), (.int ((uu &&& (255 : Int32)) <<< ((0 : Int32) &&& 31)))]))
  refine W129.gets (host := "") (Or.inl (wd94 hw)) Via.refl (SLO.ext W129.old) (hb hby dc_jdk_52_method_5_code_53) ?_
  intro T130 W131
  show Go p e below s Z [] _ _ _ (T130.setTop (mkF m 56 #[.val (.ref ta), .val (.int (3 : Int32))] [(.int (8 : Int32)), (.int (vv &&& (255 : Int32))), (.int ((uu &&& (255 : Int32)) <<< ((0 : Int32) &&& 31)))]))
  refine Go.by (fun t9_ q9_ => XS.ishl W131.here W131.hx rfl (hb hby dc_jdk_52_method_5_code_56) rfl (XS.ior W131.here W131.hx rfl (hb hby dc_jdk_52_method_5_code_57) rfl (XS.i2c W131.here W131.hx rfl (hb hby dc_jdk_52_method_5_code_58) rfl q9_))) ?_
  show Go p e below s Z [] _ _ _ (T130.setTop (mkF m 59 #[.val (.ref ta), .val (.int (3 : Int32))] [(.int ((((uu &&& (255 : Int32)) <<< ((0 : Int32) &&& 31)) ||| ((vv &&& (255 : Int32)) <<< ((8 : Int32) &&& 31))).toUInt32.toUInt16.toUInt32.toInt32))]))
  exact W131.retN (z' := cc) (by decide) (by decide) hret (by simp) (hb hby dc_jdk_52_method_5_code_59) (by show nar .char (StrChars.pairCh uu vv) = cc; rw [hp]; exact nar_id r_c) ⟨rfl, rfl⟩
set_option maxRecDepth 65536 in
set_option maxHeartbeats 40000000 in
theorem c_tb2 (l : Launch) (Z : State) (a0 : Array Value) (hw : ∀ d ∈ tables_1, d.before a0 Z = true) (hEL : EW Z a0 []) (h0 : Heap) (hE0 : Ext Z.heap h0) (ba : Addr) (kb : ClassId) (c0 c1 : Int32) (SAD : Sta Z Z.heap "java/lang/StringUTF16" "$assertionsDisabled" "Z" (.int 1)) (SHI : Sta Z Z.heap "java/lang/StringUTF16" "HI_BYTE_SHIFT" "I" (.int 0)) (SLO : Sta Z Z.heap "java/lang/StringUTF16" "LO_BYTE_SHIFT" "I" (.int 8)) (A_b : Arv Z h0 ba kb .char (2 : Int32) [(.int c0), (.int c1)] (.int (0 : Int32))) :
    Con l Z [] [] (⟨"java/lang/StringUTF16", "toBytes", "([CII)[B"⟩ : MethodName) jdk_52_method_14_code 5 (some (.array .byte)) [] ({ frames := 2, cells := 1, slots := 4, locals := 24 } : Room) #[(.ref ba), (.int (0 : Int32)), (.int (2 : Int32))] h0 (fun v h' => ∃ ta kt, v = some (.ref ta) ∧ Ext h0 h' ∧ Exa Z h' ta "[B" ∧ Arv Z h' ta kt .byte (4 : Int32) [(.int (StrChars.lo8 c0)), (.int (StrChars.hi8 c0)), (.int (StrChars.lo8 c1)), (.int (StrChars.hi8 c1))] (.int (0 : Int32))) := by
  refine Con.mk (plainFor_of_name pn_0) hEL hE0 (fun x hx => by cases hx) ?_
  intro p e s m below meth c T0 hby hml hret hnm W0
  rw [(show entryFrame m #[(.ref ba), (.int (0 : Int32)), (.int (2 : Int32))] 5 = mkF m 0 #[.val (.ref ba), .val (.int (0 : Int32)), .val (.int (2 : Int32)), .unset, .unset] [] from by first | (simp [entryFrame, mkF, argsToLocals, Value.category]; done) | rfl)]
  refine Go.by (fun t9_ q9_ => XS.iloadN W0.here W0.hx rfl (hb hby dc_jdk_52_method_14_code_0) rfl q9_) ?_
  show Go p e below s Z [] _ _ _ (T0.setTop (mkF m 1 #[.val (.ref ba), .val (.int (0 : Int32)), .val (.int (2 : Int32)), .unset, .unset] [(.int (2 : Int32))]))
  refine W0.callS (y := (⟨"java/lang/StringUTF16", "newBytesFor", "(I)[B"⟩ : MethodName)) (wd82 hw) (wd83 hw) (wd17 hw) (wd84 hw) (by decide) (c_nbf2 l Z a0 hw hEL h0 hE0) all0 (by decide) (by decide) (k' := 1) (n' := 4) rfl rfl (by decide) (by decide) (by rw [hml]; rfl) (argsL := [(.int (2 : Int32))]) (rest := []) (lenOf pd_1 rfl) rfl rfl (Wt := 0) (Nat.le_of_eq rfl) (hb hby dc_jdk_52_method_14_code_1) ?_
  intro v_ T132 h134 W133 hq_
  obtain ⟨ta, k_ta, rfl, X1, z_ta, g_ta, E_ta, A_ta⟩ := hq_
  show Go p e below s Z [] _ _ _ (T132.setTop (mkF m 4 #[.val (.ref ba), .val (.int (0 : Int32)), .val (.int (2 : Int32)), .unset, .unset] [(.ref ta)]))
  have W135 := W133.safeN (A_ta.lt)
  refine Go.by (fun t9_ q9_ => XS.astoreN W135.here W135.hx rfl (hb hby dc_jdk_52_method_14_code_4) rfl rfl (l' := #[.val (.ref ba), .val (.int (0 : Int32)), .val (.int (2 : Int32)), .val (.ref ta), .unset]) rfl (XS.iconst W135.here W135.hx rfl (hb hby dc_jdk_52_method_14_code_5) (XS.istore W135.here W135.hx rfl (hb hby dc_jdk_52_method_14_code_6) rfl (l' := #[.val (.ref ba), .val (.int (0 : Int32)), .val (.int (2 : Int32)), .val (.ref ta), .val (.int (0 : Int32))]) rfl (XS.iload W135.here W135.hx rfl (hb hby dc_jdk_52_method_14_code_8) rfl (XS.iloadN W135.here W135.hx rfl (hb hby dc_jdk_52_method_14_code_10) rfl q9_))))) ?_
  show Go p e below s Z [] _ _ _ (T132.setTop (mkF m 11 #[.val (.ref ba), .val (.int (0 : Int32)), .val (.int (2 : Int32)), .val (.ref ta), .val (.int (0 : Int32))] [(.int (2 : Int32)), (.int (0 : Int32))]))
  refine Go.by (fun t9_ q9_ => XS.icmpNo W135.here W135.hx rfl (hb hby dc_jdk_52_method_14_code_11) rfl (tlt (by decide)).2.1 q9_) ?_
  show Go p e below s Z [] _ _ _ (T132.setTop (mkF m 14 #[.val (.ref ba), .val (.int (0 : Int32)), .val (.int (2 : Int32)), .val (.ref ta), .val (.int (0 : Int32))] []))
  refine Go.by (fun t9_ q9_ => XS.aloadN W135.here W135.hx rfl (hb hby dc_jdk_52_method_14_code_14) rfl rfl (XS.iload W135.here W135.hx rfl (hb hby dc_jdk_52_method_14_code_15) rfl (XS.aloadN W135.here W135.hx rfl (hb hby dc_jdk_52_method_14_code_17) rfl rfl (XS.iloadN W135.here W135.hx rfl (hb hby dc_jdk_52_method_14_code_18) rfl q9_)))) ?_
  show Go p e below s Z [] _ _ _ (T132.setTop (mkF m 19 #[.val (.ref ba), .val (.int (0 : Int32)), .val (.int (2 : Int32)), .val (.ref ta), .val (.int (0 : Int32))] [(.int (0 : Int32)), (.ref ba), (.int (0 : Int32)), (.ref ta)]))
  refine W135.cald (A_b.ext X1) ⟨by decide, by decide⟩ (v := (.int c0)) rfl (hb hby dc_jdk_52_method_14_code_19) ?_
  show Go p e below s Z [] _ _ _ (T132.setTop (mkF m 20 #[.val (.ref ba), .val (.int (0 : Int32)), .val (.int (2 : Int32)), .val (.ref ta), .val (.int (0 : Int32))] [(.int c0), (.int (0 : Int32)), (.ref ta)]))
  refine W135.callS (y := (⟨"java/lang/StringUTF16", "putChar", "([BII)V"⟩ : MethodName)) (wd89 hw) (wd90 hw) (wd17 hw) (wd91 hw) (by decide) (c_put2_0 l Z a0 hw hEL h134 W135.old ta k_ta (.int (0 : Int32)) (.int (0 : Int32)) (.int (0 : Int32)) (.int (0 : Int32)) c0 SAD SHI SLO A_ta z_ta) (allS (List.mem_of_getElem? (i := 0) rfl) all0) (by decide) (by decide) (k' := 1) (n' := 4) rfl rfl (by decide) (by decide) (by rw [hml]; rfl) (argsL := [(.ref ta), (.int (0 : Int32)), (.int c0)]) (rest := []) (lenOf pd_2 rfl) rfl rfl (Wt := 0) (Nat.le_of_eq rfl) (hb hby dc_jdk_52_method_14_code_20) ?_
  intro v_ T136 h138 W137 hq_
  obtain ⟨rfl, K0, A0_ta⟩ := hq_
  show Go p e below s Z [] _ _ _ (T136.setTop (mkF m 23 #[.val (.ref ba), .val (.int (0 : Int32)), .val (.int (2 : Int32)), .val (.ref ta), .val (.int (0 : Int32))] []))
  refine Go.by (fun t9_ q9_ => XS.iinc W137.here W137.hx rfl (hb hby dc_jdk_52_method_14_code_23) rfl (l' := #[.val (.ref ba), .val (.int ((0 : Int32) + (1 : Int32))), .val (.int (2 : Int32)), .val (.ref ta), .val (.int (0 : Int32))]) rfl q9_) ?_
  show Go p e below s Z [] _ _ _ (T136.setTop (mkF m 26 #[.val (.ref ba), .val (.int ((0 : Int32) + (1 : Int32))), .val (.int (2 : Int32)), .val (.ref ta), .val (.int (0 : Int32))] []))
  show Go p e below s Z [] _ _ _ (T136.setTop (mkF m 26 #[.val (.ref ba), .val (.int (1 : Int32)), .val (.int (2 : Int32)), .val (.ref ta), .val (.int (0 : Int32))] []))
  refine Go.by (fun t9_ q9_ => XS.iinc W137.here W137.hx rfl (hb hby dc_jdk_52_method_14_code_26) rfl (l' := #[.val (.ref ba), .val (.int (1 : Int32)), .val (.int (2 : Int32)), .val (.ref ta), .val (.int ((0 : Int32) + (1 : Int32)))]) rfl q9_) ?_
  show Go p e below s Z [] _ _ _ (T136.setTop (mkF m 29 #[.val (.ref ba), .val (.int (1 : Int32)), .val (.int (2 : Int32)), .val (.ref ta), .val (.int ((0 : Int32) + (1 : Int32)))] []))
  show Go p e below s Z [] _ _ _ (T136.setTop (mkF m 29 #[.val (.ref ba), .val (.int (1 : Int32)), .val (.int (2 : Int32)), .val (.ref ta), .val (.int (1 : Int32))] []))
  refine Go.by (fun t9_ q9_ => XS.goto W137.here W137.hx rfl (pc0 := 29) (pc' := 8) rfl (hb hby dc_jdk_52_method_14_code_29) (by decide) (by decide) (XS.iload W137.here W137.hx rfl (hb hby dc_jdk_52_method_14_code_8) rfl (XS.iloadN W137.here W137.hx rfl (hb hby dc_jdk_52_method_14_code_10) rfl q9_))) ?_
  show Go p e below s Z [] _ _ _ (T136.setTop (mkF m 11 #[.val (.ref ba), .val (.int (1 : Int32)), .val (.int (2 : Int32)), .val (.ref ta), .val (.int (1 : Int32))] [(.int (2 : Int32)), (.int (1 : Int32))]))
  refine Go.by (fun t9_ q9_ => XS.icmpNo W137.here W137.hx rfl (hb hby dc_jdk_52_method_14_code_11) rfl (tlt (by decide)).2.1 q9_) ?_
  show Go p e below s Z [] _ _ _ (T136.setTop (mkF m 14 #[.val (.ref ba), .val (.int (1 : Int32)), .val (.int (2 : Int32)), .val (.ref ta), .val (.int (1 : Int32))] []))
  refine Go.by (fun t9_ q9_ => XS.aloadN W137.here W137.hx rfl (hb hby dc_jdk_52_method_14_code_14) rfl rfl (XS.iload W137.here W137.hx rfl (hb hby dc_jdk_52_method_14_code_15) rfl (XS.aloadN W137.here W137.hx rfl (hb hby dc_jdk_52_method_14_code_17) rfl rfl (XS.iloadN W137.here W137.hx rfl (hb hby dc_jdk_52_method_14_code_18) rfl q9_)))) ?_
  show Go p e below s Z [] _ _ _ (T136.setTop (mkF m 19 #[.val (.ref ba), .val (.int (1 : Int32)), .val (.int (2 : Int32)), .val (.ref ta), .val (.int (1 : Int32))] [(.int (1 : Int32)), (.ref ba), (.int (1 : Int32)), (.ref ta)]))
  have X139 : Ext h0 h138 := (Ext.keep' X1 K0 (allS (Nat.le_of_eq g_ta) all0))
  refine W137.cald (A_b.ext X139) ⟨by decide, by decide⟩ (v := (.int c1)) rfl (hb hby dc_jdk_52_method_14_code_19) ?_
  show Go p e below s Z [] _ _ _ (T136.setTop (mkF m 20 #[.val (.ref ba), .val (.int (1 : Int32)), .val (.int (2 : Int32)), .val (.ref ta), .val (.int (1 : Int32))] [(.int c1), (.int (1 : Int32)), (.ref ta)]))
  refine W137.callS (y := (⟨"java/lang/StringUTF16", "putChar", "([BII)V"⟩ : MethodName)) (wd89 hw) (wd90 hw) (wd17 hw) (wd91 hw) (by decide) (c_put2_1 l Z a0 hw hEL h138 W137.old ta k_ta (.int (StrChars.lo8 c0)) (.int (StrChars.hi8 c0)) (.int (0 : Int32)) (.int (0 : Int32)) c1 SAD SHI SLO A0_ta z_ta) (allS (List.mem_of_getElem? (i := 0) rfl) all0) (by decide) (by decide) (k' := 1) (n' := 4) rfl rfl (by decide) (by decide) (by rw [hml]; rfl) (argsL := [(.ref ta), (.int (1 : Int32)), (.int c1)]) (rest := []) (lenOf pd_2 rfl) rfl rfl (Wt := 0) (Nat.le_of_eq rfl) (hb hby dc_jdk_52_method_14_code_20) ?_
  intro v_ T140 h142 W141 hq_
  obtain ⟨rfl, K1, A1_ta⟩ := hq_
  show Go p e below s Z [] _ _ _ (T140.setTop (mkF m 23 #[.val (.ref ba), .val (.int (1 : Int32)), .val (.int (2 : Int32)), .val (.ref ta), .val (.int (1 : Int32))] []))
  refine Go.by (fun t9_ q9_ => XS.iinc W141.here W141.hx rfl (hb hby dc_jdk_52_method_14_code_23) rfl (l' := #[.val (.ref ba), .val (.int ((1 : Int32) + (1 : Int32))), .val (.int (2 : Int32)), .val (.ref ta), .val (.int (1 : Int32))]) rfl q9_) ?_
  show Go p e below s Z [] _ _ _ (T140.setTop (mkF m 26 #[.val (.ref ba), .val (.int ((1 : Int32) + (1 : Int32))), .val (.int (2 : Int32)), .val (.ref ta), .val (.int (1 : Int32))] []))
  show Go p e below s Z [] _ _ _ (T140.setTop (mkF m 26 #[.val (.ref ba), .val (.int (2 : Int32)), .val (.int (2 : Int32)), .val (.ref ta), .val (.int (1 : Int32))] []))
  refine Go.by (fun t9_ q9_ => XS.iinc W141.here W141.hx rfl (hb hby dc_jdk_52_method_14_code_26) rfl (l' := #[.val (.ref ba), .val (.int (2 : Int32)), .val (.int (2 : Int32)), .val (.ref ta), .val (.int ((1 : Int32) + (1 : Int32)))]) rfl q9_) ?_
  show Go p e below s Z [] _ _ _ (T140.setTop (mkF m 29 #[.val (.ref ba), .val (.int (2 : Int32)), .val (.int (2 : Int32)), .val (.ref ta), .val (.int ((1 : Int32) + (1 : Int32)))] []))
  show Go p e below s Z [] _ _ _ (T140.setTop (mkF m 29 #[.val (.ref ba), .val (.int (2 : Int32)), .val (.int (2 : Int32)), .val (.ref ta), .val (.int (2 : Int32))] []))
  refine Go.by (fun t9_ q9_ => XS.goto W141.here W141.hx rfl (pc0 := 29) (pc' := 8) rfl (hb hby dc_jdk_52_method_14_code_29) (by decide) (by decide) (XS.iload W141.here W141.hx rfl (hb hby dc_jdk_52_method_14_code_8) rfl (XS.iloadN W141.here W141.hx rfl (hb hby dc_jdk_52_method_14_code_10) rfl q9_))) ?_
  show Go p e below s Z [] _ _ _ (T140.setTop (mkF m 11 #[.val (.ref ba), .val (.int (2 : Int32)), .val (.int (2 : Int32)), .val (.ref ta), .val (.int (2 : Int32))] [(.int (2 : Int32)), (.int (2 : Int32))]))
  refine Go.by (fun t9_ q9_ => XS.icmpYes W141.here W141.hx rfl (pc0 := 11) (pc' := 32) rfl (hb hby dc_jdk_52_method_14_code_11) rfl (flt (by decide)).2.1 (by decide) (by decide) q9_) ?_
  show Go p e below s Z [] _ _ _ (T140.setTop (mkF m 32 #[.val (.ref ba), .val (.int (2 : Int32)), .val (.int (2 : Int32)), .val (.ref ta), .val (.int (2 : Int32))] []))
  refine Go.by (fun t9_ q9_ => XS.aloadN W141.here W141.hx rfl (hb hby dc_jdk_52_method_14_code_32) rfl rfl q9_) ?_
  show Go p e below s Z [] _ _ _ (T140.setTop (mkF m 33 #[.val (.ref ba), .val (.int (2 : Int32)), .val (.int (2 : Int32)), .val (.ref ta), .val (.int (2 : Int32))] [(.ref ta)]))
  have X143 : Ext h0 h142 := (Ext.keep' X139 K1 (allS (Nat.le_of_eq g_ta) all0))
  exact W141.retA (by decide) (by decide) hret rfl rfl (hb hby dc_jdk_52_method_14_code_33) ⟨ta, k_ta, rfl, X143, ((E_ta.keep K0).keep K1), A1_ta⟩
set_option maxRecDepth 65536 in
set_option maxHeartbeats 40000000 in
theorem c_cm5_2 (l : Launch) (Z : State) (a0 : Array Value) (hw : ∀ d ∈ tables_1, d.before a0 Z = true) (hEL : EW Z a0 []) (h0 : Heap) (hE0 : Ext Z.heap h0) (ba da : Addr) (kb k_da : ClassId) (c0 c1 : Int32) (A_b : Arv Z h0 ba kb .char (2 : Int32) [(.int c0), (.int c1)] (.int (0 : Int32))) (A_d : Arv Z h0 da k_da .byte (2 : Int32) [(.int (0 : Int32)), (.int (0 : Int32))] (.int (0 : Int32))) (z_da : Z.heap.size ≤ da) (nbd : ba ≠ da) (hbig : (255 : Int32) < c0 ∨ (255 : Int32) < c1) :
    Con l Z [] [da] (⟨"java/lang/StringUTF16", "compress", "([CI[BII)I"⟩ : MethodName) jdk_52_method_21_code 7 (some .int) [] ({ frames := 0, cells := 0, slots := 0, locals := 0 } : Room) #[(.ref ba), (.int (0 : Int32)), (.ref da), (.int (0 : Int32)), (.int (2 : Int32))] h0 (fun v h' => ∃ kk : Int32, v = some (.int kk) ∧ Keep h0 h' [da] ∧ (kk = (0 : Int32) ∧ (255 : Int32) < c0 ∨ kk = (1 : Int32) ∧ (255 : Int32) < c1)) := by
  refine Con.mk (plainFor_of_name pn_0) hEL hE0 (allS A_d.lt all0) ?_
  intro p e s m below meth c T0 hby hml hret hnm W0
  rw [(show entryFrame m #[(.ref ba), (.int (0 : Int32)), (.ref da), (.int (0 : Int32)), (.int (2 : Int32))] 7 = mkF m 0 #[.val (.ref ba), .val (.int (0 : Int32)), .val (.ref da), .val (.int (0 : Int32)), .val (.int (2 : Int32)), .unset, .unset] [] from by first | (simp [entryFrame, mkF, argsToLocals, Value.category]; done) | rfl)]
  refine Go.by (fun t9_ q9_ => XS.iconst W0.here W0.hx rfl (hb hby dc_jdk_52_method_21_code_0) (XS.istore W0.here W0.hx rfl (hb hby dc_jdk_52_method_21_code_1) rfl (l' := #[.val (.ref ba), .val (.int (0 : Int32)), .val (.ref da), .val (.int (0 : Int32)), .val (.int (2 : Int32)), .val (.int (0 : Int32)), .unset]) rfl (XS.iload W0.here W0.hx rfl (hb hby dc_jdk_52_method_21_code_3) rfl (XS.iload W0.here W0.hx rfl (hb hby dc_jdk_52_method_21_code_5) rfl q9_)))) ?_
  show Go p e below s Z [] _ _ _ (T0.setTop (mkF m 7 #[.val (.ref ba), .val (.int (0 : Int32)), .val (.ref da), .val (.int (0 : Int32)), .val (.int (2 : Int32)), .val (.int (0 : Int32)), .unset] [(.int (2 : Int32)), (.int (0 : Int32))]))
  refine Go.by (fun t9_ q9_ => XS.icmpNo W0.here W0.hx rfl (hb hby dc_jdk_52_method_21_code_7) rfl (tlt (by decide)).2.1 q9_) ?_
  show Go p e below s Z [] _ _ _ (T0.setTop (mkF m 10 #[.val (.ref ba), .val (.int (0 : Int32)), .val (.ref da), .val (.int (0 : Int32)), .val (.int (2 : Int32)), .val (.int (0 : Int32)), .unset] []))
  refine Go.by (fun t9_ q9_ => XS.aloadN W0.here W0.hx rfl (hb hby dc_jdk_52_method_21_code_10) rfl rfl (XS.iloadN W0.here W0.hx rfl (hb hby dc_jdk_52_method_21_code_11) rfl q9_)) ?_
  show Go p e below s Z [] _ _ _ (T0.setTop (mkF m 12 #[.val (.ref ba), .val (.int (0 : Int32)), .val (.ref da), .val (.int (0 : Int32)), .val (.int (2 : Int32)), .val (.int (0 : Int32)), .unset] [(.int (0 : Int32)), (.ref ba)]))
  refine W0.cald A_b ⟨by decide, by decide⟩ (v := (.int c0)) rfl (hb hby dc_jdk_52_method_21_code_12) ?_
  show Go p e below s Z [] _ _ _ (T0.setTop (mkF m 13 #[.val (.ref ba), .val (.int (0 : Int32)), .val (.ref da), .val (.int (0 : Int32)), .val (.int (2 : Int32)), .val (.int (0 : Int32)), .unset] [(.int c0)]))
  refine Go.by (fun t9_ q9_ => XS.istore W0.here W0.hx rfl (hb hby dc_jdk_52_method_21_code_13) rfl (l' := #[.val (.ref ba), .val (.int (0 : Int32)), .val (.ref da), .val (.int (0 : Int32)), .val (.int (2 : Int32)), .val (.int (0 : Int32)), .val (.int c0)]) rfl (XS.iload W0.here W0.hx rfl (hb hby dc_jdk_52_method_21_code_15) rfl (XS.sipush W0.here W0.hx rfl (hb hby dc_jdk_52_method_21_code_17) q9_))) ?_
  show Go p e below s Z [] _ _ _ (T0.setTop (mkF m 20 #[.val (.ref ba), .val (.int (0 : Int32)), .val (.ref da), .val (.int (0 : Int32)), .val (.int (2 : Int32)), .val (.int (0 : Int32)), .val (.int c0)] [(.int (255 : Int32)), (.int c0)]))
  by_cases e0 : (255 : Int32) < c0
  · refine Go.by (fun t9_ q9_ => XS.icmpNo W0.here W0.hx rfl (hb hby dc_jdk_52_method_21_code_20) rfl (tlt e0).2.2.2 q9_) ?_
    show Go p e below s Z [] _ _ _ (T0.setTop (mkF m 23 #[.val (.ref ba), .val (.int (0 : Int32)), .val (.ref da), .val (.int (0 : Int32)), .val (.int (2 : Int32)), .val (.int (0 : Int32)), .val (.int c0)] []))
    refine Go.by (fun t9_ q9_ => XS.iload W0.here W0.hx rfl (hb hby dc_jdk_52_method_21_code_23) rfl q9_) ?_
    show Go p e below s Z [] _ _ _ (T0.setTop (mkF m 25 #[.val (.ref ba), .val (.int (0 : Int32)), .val (.ref da), .val (.int (0 : Int32)), .val (.int (2 : Int32)), .val (.int (0 : Int32)), .val (.int c0)] [(.int (0 : Int32))]))
    exact W0.retI (by decide) (by decide) hret (hb hby dc_jdk_52_method_21_code_25) ⟨(0 : Int32), rfl, (Keep.refl h0 [da]), Or.inl ⟨rfl, e0⟩⟩
  · refine Go.by (fun t9_ q9_ => XS.icmpYes W0.here W0.hx rfl (pc0 := 20) (pc' := 26) rfl (hb hby dc_jdk_52_method_21_code_20) rfl (flt e0).2.2.2 (by decide) (by decide) q9_) ?_
    show Go p e below s Z [] _ _ _ (T0.setTop (mkF m 26 #[.val (.ref ba), .val (.int (0 : Int32)), .val (.ref da), .val (.int (0 : Int32)), .val (.int (2 : Int32)), .val (.int (0 : Int32)), .val (.int c0)] []))
    refine Go.by (fun t9_ q9_ => XS.aloadN W0.here W0.hx rfl (hb hby dc_jdk_52_method_21_code_26) rfl rfl (XS.iloadN W0.here W0.hx rfl (hb hby dc_jdk_52_method_21_code_27) rfl (XS.iload W0.here W0.hx rfl (hb hby dc_jdk_52_method_21_code_28) rfl (XS.i2b W0.here W0.hx rfl (hb hby dc_jdk_52_method_21_code_30) rfl q9_)))) ?_
    show Go p e below s Z [] _ _ _ (T0.setTop (mkF m 31 #[.val (.ref ba), .val (.int (0 : Int32)), .val (.ref da), .val (.int (0 : Int32)), .val (.int (2 : Int32)), .val (.int (0 : Int32)), .val (.int c0)] [(.int (c0.toInt8.toInt32)), (.int (0 : Int32)), (.ref da)]))
    refine W0.bast A_d ⟨by decide, by decide⟩ (i := 0) rfl (by simp) (v' := (StrChars.lo8 c0)) (by simp [nar, StrChars.lo8, lo8_lo8]) z_da (List.mem_of_getElem? (i := 0) rfl) (hb hby dc_jdk_52_method_21_code_31) ?_
    intro T144 h145 W146 Wr147 V148_da'
    have V148_da : Arv Z h145 da k_da .byte (2 : Int32) [(.int (StrChars.lo8 c0)), (.int (0 : Int32))] (.int (0 : Int32)) := V148_da'
    show Go p e below s Z [] _ _ _ (T144.setTop (mkF m 32 #[.val (.ref ba), .val (.int (0 : Int32)), .val (.ref da), .val (.int (0 : Int32)), .val (.int (2 : Int32)), .val (.int (0 : Int32)), .val (.int c0)] []))
    refine Go.by (fun t9_ q9_ => XS.iinc W146.here W146.hx rfl (hb hby dc_jdk_52_method_21_code_32) rfl (l' := #[.val (.ref ba), .val (.int ((0 : Int32) + (1 : Int32))), .val (.ref da), .val (.int (0 : Int32)), .val (.int (2 : Int32)), .val (.int (0 : Int32)), .val (.int c0)]) rfl q9_) ?_
    show Go p e below s Z [] _ _ _ (T144.setTop (mkF m 35 #[.val (.ref ba), .val (.int ((0 : Int32) + (1 : Int32))), .val (.ref da), .val (.int (0 : Int32)), .val (.int (2 : Int32)), .val (.int (0 : Int32)), .val (.int c0)] []))
    show Go p e below s Z [] _ _ _ (T144.setTop (mkF m 35 #[.val (.ref ba), .val (.int (1 : Int32)), .val (.ref da), .val (.int (0 : Int32)), .val (.int (2 : Int32)), .val (.int (0 : Int32)), .val (.int c0)] []))
    refine Go.by (fun t9_ q9_ => XS.iinc W146.here W146.hx rfl (hb hby dc_jdk_52_method_21_code_35) rfl (l' := #[.val (.ref ba), .val (.int (1 : Int32)), .val (.ref da), .val (.int ((0 : Int32) + (1 : Int32))), .val (.int (2 : Int32)), .val (.int (0 : Int32)), .val (.int c0)]) rfl q9_) ?_
    show Go p e below s Z [] _ _ _ (T144.setTop (mkF m 38 #[.val (.ref ba), .val (.int (1 : Int32)), .val (.ref da), .val (.int ((0 : Int32) + (1 : Int32))), .val (.int (2 : Int32)), .val (.int (0 : Int32)), .val (.int c0)] []))
    show Go p e below s Z [] _ _ _ (T144.setTop (mkF m 38 #[.val (.ref ba), .val (.int (1 : Int32)), .val (.ref da), .val (.int (1 : Int32)), .val (.int (2 : Int32)), .val (.int (0 : Int32)), .val (.int c0)] []))
    refine Go.by (fun t9_ q9_ => XS.iinc W146.here W146.hx rfl (hb hby dc_jdk_52_method_21_code_38) rfl (l' := #[.val (.ref ba), .val (.int (1 : Int32)), .val (.ref da), .val (.int (1 : Int32)), .val (.int (2 : Int32)), .val (.int ((0 : Int32) + (1 : Int32))), .val (.int c0)]) rfl q9_) ?_
    show Go p e below s Z [] _ _ _ (T144.setTop (mkF m 41 #[.val (.ref ba), .val (.int (1 : Int32)), .val (.ref da), .val (.int (1 : Int32)), .val (.int (2 : Int32)), .val (.int ((0 : Int32) + (1 : Int32))), .val (.int c0)] []))
    show Go p e below s Z [] _ _ _ (T144.setTop (mkF m 41 #[.val (.ref ba), .val (.int (1 : Int32)), .val (.ref da), .val (.int (1 : Int32)), .val (.int (2 : Int32)), .val (.int (1 : Int32)), .val (.int c0)] []))
    refine Go.by (fun t9_ q9_ => XS.goto W146.here W146.hx rfl (pc0 := 41) (pc' := 3) rfl (hb hby dc_jdk_52_method_21_code_41) (by decide) (by decide) (XS.iload W146.here W146.hx rfl (hb hby dc_jdk_52_method_21_code_3) rfl (XS.iload W146.here W146.hx rfl (hb hby dc_jdk_52_method_21_code_5) rfl q9_))) ?_
    show Go p e below s Z [] _ _ _ (T144.setTop (mkF m 7 #[.val (.ref ba), .val (.int (1 : Int32)), .val (.ref da), .val (.int (1 : Int32)), .val (.int (2 : Int32)), .val (.int (1 : Int32)), .val (.int c0)] [(.int (2 : Int32)), (.int (1 : Int32))]))
    refine Go.by (fun t9_ q9_ => XS.icmpNo W146.here W146.hx rfl (hb hby dc_jdk_52_method_21_code_7) rfl (tlt (by decide)).2.1 q9_) ?_
    show Go p e below s Z [] _ _ _ (T144.setTop (mkF m 10 #[.val (.ref ba), .val (.int (1 : Int32)), .val (.ref da), .val (.int (1 : Int32)), .val (.int (2 : Int32)), .val (.int (1 : Int32)), .val (.int c0)] []))
    refine Go.by (fun t9_ q9_ => XS.aloadN W146.here W146.hx rfl (hb hby dc_jdk_52_method_21_code_10) rfl rfl (XS.iloadN W146.here W146.hx rfl (hb hby dc_jdk_52_method_21_code_11) rfl q9_)) ?_
    show Go p e below s Z [] _ _ _ (T144.setTop (mkF m 12 #[.val (.ref ba), .val (.int (1 : Int32)), .val (.ref da), .val (.int (1 : Int32)), .val (.int (2 : Int32)), .val (.int (1 : Int32)), .val (.int c0)] [(.int (1 : Int32)), (.ref ba)]))
    refine W146.cald (A_b.other Wr147 nbd) ⟨by decide, by decide⟩ (v := (.int c1)) rfl (hb hby dc_jdk_52_method_21_code_12) ?_
    show Go p e below s Z [] _ _ _ (T144.setTop (mkF m 13 #[.val (.ref ba), .val (.int (1 : Int32)), .val (.ref da), .val (.int (1 : Int32)), .val (.int (2 : Int32)), .val (.int (1 : Int32)), .val (.int c0)] [(.int c1)]))
    refine Go.by (fun t9_ q9_ => XS.istore W146.here W146.hx rfl (hb hby dc_jdk_52_method_21_code_13) rfl (l' := #[.val (.ref ba), .val (.int (1 : Int32)), .val (.ref da), .val (.int (1 : Int32)), .val (.int (2 : Int32)), .val (.int (1 : Int32)), .val (.int c1)]) rfl (XS.iload W146.here W146.hx rfl (hb hby dc_jdk_52_method_21_code_15) rfl (XS.sipush W146.here W146.hx rfl (hb hby dc_jdk_52_method_21_code_17) q9_))) ?_
    show Go p e below s Z [] _ _ _ (T144.setTop (mkF m 20 #[.val (.ref ba), .val (.int (1 : Int32)), .val (.ref da), .val (.int (1 : Int32)), .val (.int (2 : Int32)), .val (.int (1 : Int32)), .val (.int c1)] [(.int (255 : Int32)), (.int c1)]))
    by_cases e1 : (255 : Int32) < c1
    · refine Go.by (fun t9_ q9_ => XS.icmpNo W146.here W146.hx rfl (hb hby dc_jdk_52_method_21_code_20) rfl (tlt e1).2.2.2 q9_) ?_
      show Go p e below s Z [] _ _ _ (T144.setTop (mkF m 23 #[.val (.ref ba), .val (.int (1 : Int32)), .val (.ref da), .val (.int (1 : Int32)), .val (.int (2 : Int32)), .val (.int (1 : Int32)), .val (.int c1)] []))
      refine Go.by (fun t9_ q9_ => XS.iload W146.here W146.hx rfl (hb hby dc_jdk_52_method_21_code_23) rfl q9_) ?_
      show Go p e below s Z [] _ _ _ (T144.setTop (mkF m 25 #[.val (.ref ba), .val (.int (1 : Int32)), .val (.ref da), .val (.int (1 : Int32)), .val (.int (2 : Int32)), .val (.int (1 : Int32)), .val (.int c1)] [(.int (1 : Int32))]))
      exact W146.retI (by decide) (by decide) hret (hb hby dc_jdk_52_method_21_code_25) ⟨(1 : Int32), rfl, ((Keep.refl h0 [da]).wr Wr147 (Or.inl (List.mem_of_getElem? (i := 0) rfl))), Or.inr (⟨rfl, e1⟩)⟩
    · refine Go.by (fun t9_ q9_ => XS.icmpYes W146.here W146.hx rfl (pc0 := 20) (pc' := 26) rfl (hb hby dc_jdk_52_method_21_code_20) rfl (flt e1).2.2.2 (by decide) (by decide) q9_) ?_
      show Go p e below s Z [] _ _ _ (T144.setTop (mkF m 26 #[.val (.ref ba), .val (.int (1 : Int32)), .val (.ref da), .val (.int (1 : Int32)), .val (.int (2 : Int32)), .val (.int (1 : Int32)), .val (.int c1)] []))
      refine Go.by (fun t9_ q9_ => XS.aloadN W146.here W146.hx rfl (hb hby dc_jdk_52_method_21_code_26) rfl rfl (XS.iloadN W146.here W146.hx rfl (hb hby dc_jdk_52_method_21_code_27) rfl (XS.iload W146.here W146.hx rfl (hb hby dc_jdk_52_method_21_code_28) rfl (XS.i2b W146.here W146.hx rfl (hb hby dc_jdk_52_method_21_code_30) rfl q9_)))) ?_
      show Go p e below s Z [] _ _ _ (T144.setTop (mkF m 31 #[.val (.ref ba), .val (.int (1 : Int32)), .val (.ref da), .val (.int (1 : Int32)), .val (.int (2 : Int32)), .val (.int (1 : Int32)), .val (.int c1)] [(.int (c1.toInt8.toInt32)), (.int (1 : Int32)), (.ref da)]))
      refine W146.bast V148_da ⟨by decide, by decide⟩ (i := 1) rfl (by simp) (v' := (StrChars.lo8 c1)) (by simp [nar, StrChars.lo8, lo8_lo8]) z_da (List.mem_of_getElem? (i := 0) rfl) (hb hby dc_jdk_52_method_21_code_31) ?_
      intro T149 h150 W151 Wr152 V153_da'
      have V153_da : Arv Z h150 da k_da .byte (2 : Int32) [(.int (StrChars.lo8 c0)), (.int (StrChars.lo8 c1))] (.int (0 : Int32)) := V153_da'
      show Go p e below s Z [] _ _ _ (T149.setTop (mkF m 32 #[.val (.ref ba), .val (.int (1 : Int32)), .val (.ref da), .val (.int (1 : Int32)), .val (.int (2 : Int32)), .val (.int (1 : Int32)), .val (.int c1)] []))
      refine Go.by (fun t9_ q9_ => XS.iinc W151.here W151.hx rfl (hb hby dc_jdk_52_method_21_code_32) rfl (l' := #[.val (.ref ba), .val (.int ((1 : Int32) + (1 : Int32))), .val (.ref da), .val (.int (1 : Int32)), .val (.int (2 : Int32)), .val (.int (1 : Int32)), .val (.int c1)]) rfl q9_) ?_
      show Go p e below s Z [] _ _ _ (T149.setTop (mkF m 35 #[.val (.ref ba), .val (.int ((1 : Int32) + (1 : Int32))), .val (.ref da), .val (.int (1 : Int32)), .val (.int (2 : Int32)), .val (.int (1 : Int32)), .val (.int c1)] []))
      show Go p e below s Z [] _ _ _ (T149.setTop (mkF m 35 #[.val (.ref ba), .val (.int (2 : Int32)), .val (.ref da), .val (.int (1 : Int32)), .val (.int (2 : Int32)), .val (.int (1 : Int32)), .val (.int c1)] []))
      refine Go.by (fun t9_ q9_ => XS.iinc W151.here W151.hx rfl (hb hby dc_jdk_52_method_21_code_35) rfl (l' := #[.val (.ref ba), .val (.int (2 : Int32)), .val (.ref da), .val (.int ((1 : Int32) + (1 : Int32))), .val (.int (2 : Int32)), .val (.int (1 : Int32)), .val (.int c1)]) rfl q9_) ?_
      show Go p e below s Z [] _ _ _ (T149.setTop (mkF m 38 #[.val (.ref ba), .val (.int (2 : Int32)), .val (.ref da), .val (.int ((1 : Int32) + (1 : Int32))), .val (.int (2 : Int32)), .val (.int (1 : Int32)), .val (.int c1)] []))
      show Go p e below s Z [] _ _ _ (T149.setTop (mkF m 38 #[.val (.ref ba), .val (.int (2 : Int32)), .val (.ref da), .val (.int (2 : Int32)), .val (.int (2 : Int32)), .val (.int (1 : Int32)), .val (.int c1)] []))
      refine Go.by (fun t9_ q9_ => XS.iinc W151.here W151.hx rfl (hb hby dc_jdk_52_method_21_code_38) rfl (l' := #[.val (.ref ba), .val (.int (2 : Int32)), .val (.ref da), .val (.int (2 : Int32)), .val (.int (2 : Int32)), .val (.int ((1 : Int32) + (1 : Int32))), .val (.int c1)]) rfl q9_) ?_
      show Go p e below s Z [] _ _ _ (T149.setTop (mkF m 41 #[.val (.ref ba), .val (.int (2 : Int32)), .val (.ref da), .val (.int (2 : Int32)), .val (.int (2 : Int32)), .val (.int ((1 : Int32) + (1 : Int32))), .val (.int c1)] []))
      show Go p e below s Z [] _ _ _ (T149.setTop (mkF m 41 #[.val (.ref ba), .val (.int (2 : Int32)), .val (.ref da), .val (.int (2 : Int32)), .val (.int (2 : Int32)), .val (.int (2 : Int32)), .val (.int c1)] []))
      rcases hbig with z0 | z1 <;> contradiction
set_option maxRecDepth 65536 in
set_option maxHeartbeats 40000000 in
theorem c_cm3_2 (l : Launch) (Z : State) (a0 : Array Value) (hw : ∀ d ∈ tables_1, d.before a0 Z = true) (hEL : EW Z a0 []) (h0 : Heap) (hE0 : Ext Z.heap h0) (ba : Addr) (kb : ClassId) (c0 c1 : Int32) (SAD : Sta Z Z.heap "java/lang/StringUTF16" "$assertionsDisabled" "Z" (.int 1)) (SHI : Sta Z Z.heap "java/lang/StringUTF16" "HI_BYTE_SHIFT" "I" (.int 0)) (SLO : Sta Z Z.heap "java/lang/StringUTF16" "LO_BYTE_SHIFT" "I" (.int 8)) (A_b : Arv Z h0 ba kb .char (2 : Int32) [(.int c0), (.int c1)] (.int (0 : Int32))) (r0 : ¬ c0 < 0 ∧ ¬ (65535 : Int32) < c0) (r1 : ¬ c1 < 0 ∧ ¬ (65535 : Int32) < c1) (hbig : (255 : Int32) < c0 ∨ (255 : Int32) < c1) :
    Con l Z [] [] (⟨"java/lang/StringUTF16", "compress", "([CII)[B"⟩ : MethodName) jdk_52_method_16_code 6 (some (.array .byte)) [] ({ frames := 3, cells := 2, slots := 6, locals := 40 } : Room) #[(.ref ba), (.int (0 : Int32)), (.int (2 : Int32))] h0 (fun v h' => ∃ ta kt, v = some (.ref ta) ∧ Ext h0 h' ∧ Exa Z h' ta "[B" ∧ Arv Z h' ta kt .byte (4 : Int32) [(.int (StrChars.lo8 c0)), (.int (StrChars.hi8 c0)), (.int (StrChars.lo8 c1)), (.int (StrChars.hi8 c1))] (.int (0 : Int32))) := by
  refine Con.mk (plainFor_of_name pn_0) hEL hE0 (fun x hx => by cases hx) ?_
  intro p e s m below meth c T0 hby hml hret hnm W0
  rw [(show entryFrame m #[(.ref ba), (.int (0 : Int32)), (.int (2 : Int32))] 6 = mkF m 0 #[.val (.ref ba), .val (.int (0 : Int32)), .val (.int (2 : Int32)), .unset, .unset, .unset] [] from by first | (simp [entryFrame, mkF, argsToLocals, Value.category]; done) | rfl)]
  refine Go.by (fun t9_ q9_ => XS.iloadN W0.here W0.hx rfl (hb hby dc_jdk_52_method_16_code_0) rfl q9_) ?_
  show Go p e below s Z [] _ _ _ (T0.setTop (mkF m 1 #[.val (.ref ba), .val (.int (0 : Int32)), .val (.int (2 : Int32)), .unset, .unset, .unset] [(.int (2 : Int32))]))
  refine W0.newp (aty := .byte) (wd19 hw) (hb hby dc_jdk_52_method_16_code_1) (by decide) (cap := 2) (by decide) (by decide) (k' := 1) (n' := 2) rfl rfl (by decide) (by decide) (ad := "[B") rfl ?_
  intro T154 h155 da k_da W156 E157 g_da z_da A_da V_da
  have V1_da : Arv Z h155 da k_da .byte (2 : Int32) [(.int (0 : Int32)), (.int (0 : Int32))] (.int (0 : Int32)) := V_da.pad (pad_rep [] (.int (0 : Int32)) 2)
  show Go p e below s Z [] _ _ _ (T154.setTop (mkF m 3 #[.val (.ref ba), .val (.int (0 : Int32)), .val (.int (2 : Int32)), .unset, .unset, .unset] [(.ref da)]))
  refine Go.by (fun t9_ q9_ => XS.astoreN W156.here W156.hx rfl (hb hby dc_jdk_52_method_16_code_3) rfl rfl (l' := #[.val (.ref ba), .val (.int (0 : Int32)), .val (.int (2 : Int32)), .val (.ref da), .unset, .unset]) rfl (XS.aloadN W156.here W156.hx rfl (hb hby dc_jdk_52_method_16_code_4) rfl rfl (XS.iloadN W156.here W156.hx rfl (hb hby dc_jdk_52_method_16_code_5) rfl (XS.aloadN W156.here W156.hx rfl (hb hby dc_jdk_52_method_16_code_6) rfl rfl (XS.iconst W156.here W156.hx rfl (hb hby dc_jdk_52_method_16_code_7) (XS.iloadN W156.here W156.hx rfl (hb hby dc_jdk_52_method_16_code_8) rfl q9_)))))) ?_
  show Go p e below s Z [] _ _ _ (T154.setTop (mkF m 9 #[.val (.ref ba), .val (.int (0 : Int32)), .val (.int (2 : Int32)), .val (.ref da), .unset, .unset] [(.int (2 : Int32)), (.int (0 : Int32)), (.ref da), (.int (0 : Int32)), (.ref ba)]))
  refine W156.callS (y := (⟨"java/lang/StringUTF16", "compress", "([CI[BII)I"⟩ : MethodName)) (wd20 hw) (wd21 hw) (wd17 hw) (wd22 hw) (by decide) (c_cm5_2 l Z a0 hw hEL h155 W156.old ba da kb k_da c0 c1 (A_b.ext E157) V1_da z_da (Nat.ne_of_lt (Nat.lt_of_lt_of_le A_b.lt (Nat.le_of_eq g_da))) hbig) (allS (List.mem_of_getElem? (i := 0) rfl) all0) (by decide) (by decide) (k' := 1) (n' := 2) rfl rfl (by decide) (by decide) (by rw [hml]; rfl) (argsL := [(.ref ba), (.int (0 : Int32)), (.ref da), (.int (0 : Int32)), (.int (2 : Int32))]) (rest := []) (lenOf pd_3 rfl) rfl rfl (Wt := 0) (Nat.le_of_eq rfl) (hb hby dc_jdk_52_method_16_code_9) ?_
  intro v_ T158 h160 W159 hq_
  obtain ⟨kk, rfl, K1, hk⟩ := hq_
  show Go p e below s Z [] _ _ _ (T158.setTop (mkF m 12 #[.val (.ref ba), .val (.int (0 : Int32)), .val (.int (2 : Int32)), .val (.ref da), .unset, .unset] [(.int kk)]))
  refine Go.by (fun t9_ q9_ => XS.istore W159.here W159.hx rfl (hb hby dc_jdk_52_method_16_code_12) rfl (l' := #[.val (.ref ba), .val (.int (0 : Int32)), .val (.int (2 : Int32)), .val (.ref da), .val (.int kk), .unset]) rfl (XS.iload W159.here W159.hx rfl (hb hby dc_jdk_52_method_16_code_14) rfl (XS.iloadN W159.here W159.hx rfl (hb hby dc_jdk_52_method_16_code_16) rfl q9_))) ?_
  show Go p e below s Z [] _ _ _ (T158.setTop (mkF m 17 #[.val (.ref ba), .val (.int (0 : Int32)), .val (.int (2 : Int32)), .val (.ref da), .val (.int kk), .unset] [(.int (2 : Int32)), (.int kk)]))
  rcases hk with ⟨rfl, e0⟩ | ⟨rfl, e1⟩
  · show Go p e below s Z [] _ _ _ (T158.setTop (mkF m 17 #[.val (.ref ba), .val (.int (0 : Int32)), .val (.int (2 : Int32)), .val (.ref da), .val (.int (0 : Int32)), .unset] [(.int (2 : Int32)), (.int (0 : Int32))]))
    refine Go.by (fun t9_ q9_ => XS.icmpNo W159.here W159.hx rfl (hb hby dc_jdk_52_method_16_code_17) rfl (feq (by decide)).1 q9_) ?_
    show Go p e below s Z [] _ _ _ (T158.setTop (mkF m 20 #[.val (.ref ba), .val (.int (0 : Int32)), .val (.int (2 : Int32)), .val (.ref da), .val (.int (0 : Int32)), .unset] []))
    refine Go.by (fun t9_ q9_ => XS.aloadN W159.here W159.hx rfl (hb hby dc_jdk_52_method_16_code_20) rfl rfl (XS.iloadN W159.here W159.hx rfl (hb hby dc_jdk_52_method_16_code_21) rfl (XS.iloadN W159.here W159.hx rfl (hb hby dc_jdk_52_method_16_code_22) rfl q9_))) ?_
    show Go p e below s Z [] _ _ _ (T158.setTop (mkF m 23 #[.val (.ref ba), .val (.int (0 : Int32)), .val (.int (2 : Int32)), .val (.ref da), .val (.int (0 : Int32)), .unset] [(.int (2 : Int32)), (.int (0 : Int32)), (.ref ba)]))
    have X161 : Ext h0 h160 := (Ext.keep' E157 K1 (allS (Nat.le_of_eq g_da) all0))
    refine W159.callS (y := (⟨"java/lang/StringUTF16", "toBytes", "([CII)[B"⟩ : MethodName)) (wd79 hw) (wd80 hw) (wd17 hw) (wd81 hw) (by decide) (c_tb2 l Z a0 hw hEL h160 W159.old ba kb c0 c1 SAD SHI SLO (A_b.ext X161)) all0 (by decide) (by decide) (k' := 2) (n' := 6) rfl rfl (by decide) (by decide) (by rw [hml]; rfl) (argsL := [(.ref ba), (.int (0 : Int32)), (.int (2 : Int32))]) (rest := []) (lenOf pd_4 rfl) rfl rfl (Wt := 0) (Nat.le_of_eq rfl) (hb hby dc_jdk_52_method_16_code_23) ?_
    intro v_ T162 h164 W163 hq_
    obtain ⟨ta, k_ta, rfl, X2, E_ta, A_ta⟩ := hq_
    show Go p e below s Z [] _ _ _ (T162.setTop (mkF m 26 #[.val (.ref ba), .val (.int (0 : Int32)), .val (.int (2 : Int32)), .val (.ref da), .val (.int (0 : Int32)), .unset] [(.ref ta)]))
    refine Go.by (fun t9_ q9_ => XS.astore W163.here W163.hx rfl (hb hby dc_jdk_52_method_16_code_26) rfl rfl (l' := #[.val (.ref ba), .val (.int (0 : Int32)), .val (.int (2 : Int32)), .val (.ref da), .val (.int (0 : Int32)), .val (.ref ta)]) rfl (XS.aload W163.here W163.hx rfl (hb hby dc_jdk_52_method_16_code_28) rfl rfl (XS.iload W163.here W163.hx rfl (hb hby dc_jdk_52_method_16_code_30) rfl q9_))) ?_
    show Go p e below s Z [] _ _ _ (T162.setTop (mkF m 32 #[.val (.ref ba), .val (.int (0 : Int32)), .val (.int (2 : Int32)), .val (.ref da), .val (.int (0 : Int32)), .val (.ref ta)] [(.int (0 : Int32)), (.ref ta)]))
    refine W163.callSp (y := (⟨"java/lang/StringUTF16", "getChar", "([BI)C"⟩ : MethodName)) (wd95 hw) (wd96 hw) (wd17 hw) (wd97 hw) (by decide) (c_get2_0 l Z a0 hw hEL h164 W163.old ta k_ta _ _ _ c0 SAD SHI SLO A_ta rfl rfl (StrChars.pair_says r0.1 r0.2) r0) all0 (by decide) (by decide) (k' := 2) (n' := 6) rfl rfl (by decide) (by decide) (by rw [hml]; rfl) (argsL := [(.ref ta), (.int (0 : Int32))]) (rest := []) (lenOf pd_5 rfl) rfl rfl (Wt := 0) (Nat.le_of_eq rfl) (hb hby dc_jdk_52_method_16_code_32) ?_
    intro T165 W166
    show Go p e below s Z [] _ _ _ (T165.setTop (mkF m 35 #[.val (.ref ba), .val (.int (0 : Int32)), .val (.int (2 : Int32)), .val (.ref da), .val (.int (0 : Int32)), .val (.ref ta)] [(.int c0)]))
    refine Go.by (fun t9_ q9_ => XS.sipush W166.here W166.hx rfl (hb hby dc_jdk_52_method_16_code_35) q9_) ?_
    show Go p e below s Z [] _ _ _ (T165.setTop (mkF m 38 #[.val (.ref ba), .val (.int (0 : Int32)), .val (.int (2 : Int32)), .val (.ref da), .val (.int (0 : Int32)), .val (.ref ta)] [(.int (255 : Int32)), (.int c0)]))
    refine Go.by (fun t9_ q9_ => XS.icmpYes W166.here W166.hx rfl (pc0 := 38) (pc' := 54) rfl (hb hby dc_jdk_52_method_16_code_38) rfl (tlt e0).2.2.1 (by decide) (by decide) q9_) ?_
    show Go p e below s Z [] _ _ _ (T165.setTop (mkF m 54 #[.val (.ref ba), .val (.int (0 : Int32)), .val (.int (2 : Int32)), .val (.ref da), .val (.int (0 : Int32)), .val (.ref ta)] []))
    refine Go.by (fun t9_ q9_ => XS.aload W166.here W166.hx rfl (hb hby dc_jdk_52_method_16_code_54) rfl rfl q9_) ?_
    show Go p e below s Z [] _ _ _ (T165.setTop (mkF m 56 #[.val (.ref ba), .val (.int (0 : Int32)), .val (.int (2 : Int32)), .val (.ref da), .val (.int (0 : Int32)), .val (.ref ta)] [(.ref ta)]))
    have X167 : Ext h0 h164 := (Ext.trans' X161 X2)
    exact W166.retA (by decide) (by decide) hret rfl rfl (hb hby dc_jdk_52_method_16_code_56) ⟨ta, k_ta, rfl, X167, E_ta, A_ta⟩
  · show Go p e below s Z [] _ _ _ (T158.setTop (mkF m 17 #[.val (.ref ba), .val (.int (0 : Int32)), .val (.int (2 : Int32)), .val (.ref da), .val (.int (1 : Int32)), .unset] [(.int (2 : Int32)), (.int (1 : Int32))]))
    refine Go.by (fun t9_ q9_ => XS.icmpNo W159.here W159.hx rfl (hb hby dc_jdk_52_method_16_code_17) rfl (feq (by decide)).1 q9_) ?_
    show Go p e below s Z [] _ _ _ (T158.setTop (mkF m 20 #[.val (.ref ba), .val (.int (0 : Int32)), .val (.int (2 : Int32)), .val (.ref da), .val (.int (1 : Int32)), .unset] []))
    refine Go.by (fun t9_ q9_ => XS.aloadN W159.here W159.hx rfl (hb hby dc_jdk_52_method_16_code_20) rfl rfl (XS.iloadN W159.here W159.hx rfl (hb hby dc_jdk_52_method_16_code_21) rfl (XS.iloadN W159.here W159.hx rfl (hb hby dc_jdk_52_method_16_code_22) rfl q9_))) ?_
    show Go p e below s Z [] _ _ _ (T158.setTop (mkF m 23 #[.val (.ref ba), .val (.int (0 : Int32)), .val (.int (2 : Int32)), .val (.ref da), .val (.int (1 : Int32)), .unset] [(.int (2 : Int32)), (.int (0 : Int32)), (.ref ba)]))
    have X168 : Ext h0 h160 := (Ext.keep' E157 K1 (allS (Nat.le_of_eq g_da) all0))
    refine W159.callS (y := (⟨"java/lang/StringUTF16", "toBytes", "([CII)[B"⟩ : MethodName)) (wd79 hw) (wd80 hw) (wd17 hw) (wd81 hw) (by decide) (c_tb2 l Z a0 hw hEL h160 W159.old ba kb c0 c1 SAD SHI SLO (A_b.ext X168)) all0 (by decide) (by decide) (k' := 2) (n' := 6) rfl rfl (by decide) (by decide) (by rw [hml]; rfl) (argsL := [(.ref ba), (.int (0 : Int32)), (.int (2 : Int32))]) (rest := []) (lenOf pd_4 rfl) rfl rfl (Wt := 0) (Nat.le_of_eq rfl) (hb hby dc_jdk_52_method_16_code_23) ?_
    intro v_ T169 h171 W170 hq_
    obtain ⟨ta, k_ta, rfl, X2, E_ta, A_ta⟩ := hq_
    show Go p e below s Z [] _ _ _ (T169.setTop (mkF m 26 #[.val (.ref ba), .val (.int (0 : Int32)), .val (.int (2 : Int32)), .val (.ref da), .val (.int (1 : Int32)), .unset] [(.ref ta)]))
    refine Go.by (fun t9_ q9_ => XS.astore W170.here W170.hx rfl (hb hby dc_jdk_52_method_16_code_26) rfl rfl (l' := #[.val (.ref ba), .val (.int (0 : Int32)), .val (.int (2 : Int32)), .val (.ref da), .val (.int (1 : Int32)), .val (.ref ta)]) rfl (XS.aload W170.here W170.hx rfl (hb hby dc_jdk_52_method_16_code_28) rfl rfl (XS.iload W170.here W170.hx rfl (hb hby dc_jdk_52_method_16_code_30) rfl q9_))) ?_
    show Go p e below s Z [] _ _ _ (T169.setTop (mkF m 32 #[.val (.ref ba), .val (.int (0 : Int32)), .val (.int (2 : Int32)), .val (.ref da), .val (.int (1 : Int32)), .val (.ref ta)] [(.int (1 : Int32)), (.ref ta)]))
    refine W170.callSp (y := (⟨"java/lang/StringUTF16", "getChar", "([BI)C"⟩ : MethodName)) (wd95 hw) (wd96 hw) (wd17 hw) (wd97 hw) (by decide) (c_get2_1 l Z a0 hw hEL h171 W170.old ta k_ta _ _ _ c1 SAD SHI SLO A_ta rfl rfl (StrChars.pair_says r1.1 r1.2) r1) all0 (by decide) (by decide) (k' := 2) (n' := 6) rfl rfl (by decide) (by decide) (by rw [hml]; rfl) (argsL := [(.ref ta), (.int (1 : Int32))]) (rest := []) (lenOf pd_5 rfl) rfl rfl (Wt := 0) (Nat.le_of_eq rfl) (hb hby dc_jdk_52_method_16_code_32) ?_
    intro T172 W173
    show Go p e below s Z [] _ _ _ (T172.setTop (mkF m 35 #[.val (.ref ba), .val (.int (0 : Int32)), .val (.int (2 : Int32)), .val (.ref da), .val (.int (1 : Int32)), .val (.ref ta)] [(.int c1)]))
    refine Go.by (fun t9_ q9_ => XS.sipush W173.here W173.hx rfl (hb hby dc_jdk_52_method_16_code_35) q9_) ?_
    show Go p e below s Z [] _ _ _ (T172.setTop (mkF m 38 #[.val (.ref ba), .val (.int (0 : Int32)), .val (.int (2 : Int32)), .val (.ref da), .val (.int (1 : Int32)), .val (.ref ta)] [(.int (255 : Int32)), (.int c1)]))
    refine Go.by (fun t9_ q9_ => XS.icmpYes W173.here W173.hx rfl (pc0 := 38) (pc' := 54) rfl (hb hby dc_jdk_52_method_16_code_38) rfl (tlt e1).2.2.1 (by decide) (by decide) q9_) ?_
    show Go p e below s Z [] _ _ _ (T172.setTop (mkF m 54 #[.val (.ref ba), .val (.int (0 : Int32)), .val (.int (2 : Int32)), .val (.ref da), .val (.int (1 : Int32)), .val (.ref ta)] []))
    refine Go.by (fun t9_ q9_ => XS.aload W173.here W173.hx rfl (hb hby dc_jdk_52_method_16_code_54) rfl rfl q9_) ?_
    show Go p e below s Z [] _ _ _ (T172.setTop (mkF m 56 #[.val (.ref ba), .val (.int (0 : Int32)), .val (.int (2 : Int32)), .val (.ref da), .val (.int (1 : Int32)), .val (.ref ta)] [(.ref ta)]))
    have X174 : Ext h0 h171 := (Ext.trans' X168 X2)
    exact W173.retA (by decide) (by decide) hret rfl rfl (hb hby dc_jdk_52_method_16_code_56) ⟨ta, k_ta, rfl, X174, E_ta, A_ta⟩
set_option maxRecDepth 65536 in
set_option maxHeartbeats 40000000 in
theorem c_cod2 (l : Launch) (Z : State) (a0 : Array Value) (hw : ∀ d ∈ tables_1, d.before a0 Z = true) (hEL : EW Z a0 []) (h0 : Heap) (hE0 : Ext Z.heap h0) (ta : Addr) (k_ta : ClassId) (vs : List Value) (A_t : Arv Z h0 ta k_ta .byte (4 : Int32) vs (.int (0 : Int32))) :
    Con l Z [] [] (⟨"java/lang/StringUTF16", "coderFromArrayLen", "([BI)B"⟩ : MethodName) jdk_52_method_15_code 2 (some .byte) [] ({ frames := 0, cells := 0, slots := 0, locals := 0 } : Room) #[(.ref ta), (.int (2 : Int32))] h0 (fun v h' => v = (some (.int 1)) ∧ h' = h0) := by
  refine Con.mk (plainFor_of_name pn_0) hEL hE0 (fun x hx => by cases hx) ?_
  intro p e s m below meth c T0 hby hml hret hnm W0
  rw [(show entryFrame m #[(.ref ta), (.int (2 : Int32))] 2 = mkF m 0 #[.val (.ref ta), .val (.int (2 : Int32))] [] from by first | (simp [entryFrame, mkF, argsToLocals, Value.category]; done) | rfl)]
  refine Go.by (fun t9_ q9_ => XS.iloadN W0.here W0.hx rfl (hb hby dc_jdk_52_method_15_code_0) rfl (XS.aloadN W0.here W0.hx rfl (hb hby dc_jdk_52_method_15_code_1) rfl rfl q9_)) ?_
  show Go p e below s Z [] _ _ _ (T0.setTop (mkF m 2 #[.val (.ref ta), .val (.int (2 : Int32))] [(.ref ta), (.int (2 : Int32))]))
  refine W0.alen A_t (hb hby dc_jdk_52_method_15_code_2) ?_
  show Go p e below s Z [] _ _ _ (T0.setTop (mkF m 3 #[.val (.ref ta), .val (.int (2 : Int32))] [(.int (4 : Int32)), (.int (2 : Int32))]))
  refine Go.by (fun t9_ q9_ => XS.isub W0.here W0.hx rfl (hb hby dc_jdk_52_method_15_code_3) rfl (XS.bipush W0.here W0.hx rfl (hb hby dc_jdk_52_method_15_code_4) (XS.iushr W0.here W0.hx rfl (hb hby dc_jdk_52_method_15_code_6) rfl (XS.i2b W0.here W0.hx rfl (hb hby dc_jdk_52_method_15_code_7) rfl q9_)))) ?_
  show Go p e below s Z [] _ _ _ (T0.setTop (mkF m 8 #[.val (.ref ta), .val (.int (2 : Int32))] [(.int (((((2 : Int32) - (4 : Int32)).toUInt32 >>> ((31 : Int32) &&& 31).toUInt32).toInt32).toInt8.toInt32))]))
  exact W0.retN (z' := (1 : Int32)) (by decide) (by decide) hret (by simp) (hb hby dc_jdk_52_method_15_code_8) (by decide) ⟨rfl, rfl⟩
set_option maxRecDepth 65536 in
set_option maxHeartbeats 40000000 in
theorem c_s4_2 (l : Launch) (Z : State) (a0 : Array Value) (hw : ∀ d ∈ tables_1, d.before a0 Z = true) (hEL : EW Z a0 []) (h0 : Heap) (hE0 : Ext Z.heap h0) (x ba : Addr) (kb : ClassId) (c0 c1 G1 : Int32) (E_x : Exa Z h0 x "java/lang/String") (FV : Fld Z h0 x "java/lang/String" "value" "[B" .null) (FC : Fld Z h0 x "java/lang/String" "coder" "B" (.int 0)) (z_x : Z.heap.size ≤ x) (SAD : Sta Z Z.heap "java/lang/StringUTF16" "$assertionsDisabled" "Z" (.int 1)) (SHI : Sta Z Z.heap "java/lang/StringUTF16" "HI_BYTE_SHIFT" "I" (.int 0)) (SLO : Sta Z Z.heap "java/lang/StringUTF16" "LO_BYTE_SHIFT" "I" (.int 8)) (SG1 : Sta Z Z.heap "java/lang/String" "COMPACT_STRINGS" "Z" (.int G1)) (hG : ¬ G1 = 0) (A_b : Arv Z h0 ba kb .char (2 : Int32) [(.int c0), (.int c1)] (.int (0 : Int32))) (r0 : ¬ c0 < 0 ∧ ¬ (65535 : Int32) < c0) (r1 : ¬ c1 < 0 ∧ ¬ (65535 : Int32) < c1) (hbig : (255 : Int32) < c0 ∨ (255 : Int32) < c1) :
    Con l Z [] [x] (⟨"java/lang/String", "<init>", "([CIILjava/lang/Void;)V"⟩ : MethodName) jdk_42_method_149_code 6 none [] ({ frames := 4, cells := 2, slots := 6, locals := 57 } : Room) #[(.ref x), (.ref ba), (.int (0 : Int32)), (.int (2 : Int32)), .null] h0 (fun v h' => v = none ∧ Keep h0 h' [x] ∧ ∃ ta kt, Exa Z h' x "java/lang/String" ∧ Fld Z h' x "java/lang/String" "value" "[B" (.ref ta) ∧ Fld Z h' x "java/lang/String" "coder" "B" (.int 1) ∧ Arv Z h' ta kt .byte (4 : Int32) [(.int (StrChars.lo8 c0)), (.int (StrChars.hi8 c0)), (.int (StrChars.lo8 c1)), (.int (StrChars.hi8 c1))] (.int (0 : Int32))) := by
  refine Con.mk (plainFor_of_name pn_1) hEL hE0 (allS E_x.lt all0) ?_
  intro p e s m below meth c T0 hby hml hret hnm W0
  rw [(show entryFrame m #[(.ref x), (.ref ba), (.int (0 : Int32)), (.int (2 : Int32)), .null] 6 = mkF m 0 #[.val (.ref x), .val (.ref ba), .val (.int (0 : Int32)), .val (.int (2 : Int32)), .val .null, .unset] [] from by first | (simp [entryFrame, mkF, argsToLocals, Value.category]; done) | rfl)]
  refine Go.by (fun t9_ q9_ => XS.aloadN W0.here W0.hx rfl (hb hby dc_jdk_42_method_149_code_0) rfl rfl q9_) ?_
  show Go p e below s Z [] _ _ _ (T0.setTop (mkF m 1 #[.val (.ref x), .val (.ref ba), .val (.int (0 : Int32)), .val (.int (2 : Int32)), .val .null, .unset] [(.ref x)]))
  refine W0.initO (wd11 hw) (wd12 hw) (wd13 hw) (by rw [hml]; rfl) (hb hby dc_jdk_42_method_149_code_1) (by decide) (Wt := 0) (Nat.le_of_eq rfl) (by decide) ?_
  intro T175 W176
  show Go p e below s Z [] _ _ _ (T175.setTop (mkF m 4 #[.val (.ref x), .val (.ref ba), .val (.int (0 : Int32)), .val (.int (2 : Int32)), .val .null, .unset] []))
  refine Go.by (fun t9_ q9_ => XS.iloadN W176.here W176.hx rfl (hb hby dc_jdk_42_method_149_code_4) rfl q9_) ?_
  show Go p e below s Z [] _ _ _ (T175.setTop (mkF m 5 #[.val (.ref x), .val (.ref ba), .val (.int (0 : Int32)), .val (.int (2 : Int32)), .val .null, .unset] [(.int (2 : Int32))]))
  refine Go.by (fun t9_ q9_ => XS.ifYes W176.here W176.hx rfl (pc0 := 5) (pc' := 27) rfl (hb hby dc_jdk_42_method_149_code_5) rfl ((if0 _ _).trans (feq (by decide)).2) (by decide) (by decide) q9_) ?_
  show Go p e below s Z [] _ _ _ (T175.setTop (mkF m 27 #[.val (.ref x), .val (.ref ba), .val (.int (0 : Int32)), .val (.int (2 : Int32)), .val .null, .unset] []))
  refine W176.gets (host := "") (Or.inl (wd14 hw)) Via.refl (SG1.ext W176.old) (hb hby dc_jdk_42_method_149_code_27) ?_
  intro T177 W178
  show Go p e below s Z [] _ _ _ (T177.setTop (mkF m 30 #[.val (.ref x), .val (.ref ba), .val (.int (0 : Int32)), .val (.int (2 : Int32)), .val .null, .unset] [(.int G1)]))
  refine Go.by (fun t9_ q9_ => XS.ifNo W178.here W178.hx rfl (hb hby dc_jdk_42_method_149_code_30) rfl ((if0 _ _).trans (feq hG).1) q9_) ?_
  show Go p e below s Z [] _ _ _ (T177.setTop (mkF m 33 #[.val (.ref x), .val (.ref ba), .val (.int (0 : Int32)), .val (.int (2 : Int32)), .val .null, .unset] []))
  refine Go.by (fun t9_ q9_ => XS.aloadN W178.here W178.hx rfl (hb hby dc_jdk_42_method_149_code_33) rfl rfl (XS.iloadN W178.here W178.hx rfl (hb hby dc_jdk_42_method_149_code_34) rfl (XS.iloadN W178.here W178.hx rfl (hb hby dc_jdk_42_method_149_code_35) rfl q9_))) ?_
  show Go p e below s Z [] _ _ _ (T177.setTop (mkF m 36 #[.val (.ref x), .val (.ref ba), .val (.int (0 : Int32)), .val (.int (2 : Int32)), .val .null, .unset] [(.int (2 : Int32)), (.int (0 : Int32)), (.ref ba)]))
  refine W178.callS (y := (⟨"java/lang/StringUTF16", "compress", "([CII)[B"⟩ : MethodName)) (wd15 hw) (wd16 hw) (wd17 hw) (wd18 hw) (by decide) (c_cm3_2 l Z a0 hw hEL h0 W178.old ba kb c0 c1 SAD SHI SLO A_b r0 r1 hbig) all0 (by decide) (by decide) (k' := 2) (n' := 6) rfl rfl (by decide) (by decide) (by rw [hml]; rfl) (argsL := [(.ref ba), (.int (0 : Int32)), (.int (2 : Int32))]) (rest := []) (lenOf pd_4 rfl) rfl rfl (Wt := 0) (Nat.le_of_eq rfl) (hb hby dc_jdk_42_method_149_code_36) ?_
  intro v_ T179 h181 W180 hq_
  obtain ⟨ta, k_ta, rfl, X1, E_ta, A_ta⟩ := hq_
  show Go p e below s Z [] _ _ _ (T179.setTop (mkF m 39 #[.val (.ref x), .val (.ref ba), .val (.int (0 : Int32)), .val (.int (2 : Int32)), .val .null, .unset] [(.ref ta)]))
  refine Go.by (fun t9_ q9_ => XS.astore W180.here W180.hx rfl (hb hby dc_jdk_42_method_149_code_39) rfl rfl (l' := #[.val (.ref x), .val (.ref ba), .val (.int (0 : Int32)), .val (.int (2 : Int32)), .val .null, .val (.ref ta)]) rfl (XS.aloadN W180.here W180.hx rfl (hb hby dc_jdk_42_method_149_code_41) rfl rfl (XS.aload W180.here W180.hx rfl (hb hby dc_jdk_42_method_149_code_42) rfl rfl (XS.iloadN W180.here W180.hx rfl (hb hby dc_jdk_42_method_149_code_44) rfl q9_)))) ?_
  show Go p e below s Z [] _ _ _ (T179.setTop (mkF m 45 #[.val (.ref x), .val (.ref ba), .val (.int (0 : Int32)), .val (.int (2 : Int32)), .val .null, .val (.ref ta)] [(.int (2 : Int32)), (.ref ta), (.ref x)]))
  refine W180.callSp (y := (⟨"java/lang/StringUTF16", "coderFromArrayLen", "([BI)B"⟩ : MethodName)) (wd23 hw) (wd24 hw) (wd17 hw) (wd25 hw) (by decide) (c_cod2 l Z a0 hw hEL h181 W180.old ta k_ta _ A_ta) all0 (by decide) (by decide) (k' := 2) (n' := 6) rfl rfl (by decide) (by decide) (by rw [hml]; rfl) (argsL := [(.ref ta), (.int (2 : Int32))]) (rest := [(.ref x)]) (lenOf pd_6 rfl) rfl rfl (Wt := 1) (Nat.le_of_eq rfl) (hb hby dc_jdk_42_method_149_code_45) ?_
  intro T182 W183
  show Go p e below s Z [] _ _ _ (T182.setTop (mkF m 48 #[.val (.ref x), .val (.ref ba), .val (.int (0 : Int32)), .val (.int (2 : Int32)), .val .null, .val (.ref ta)] [(.int (1 : Int32)), (.ref x)]))
  refine W183.putf (host := "") (Or.inl (wd26 hw)) Via.refl (FC.ext X1) (E_x.ext X1) (Or.inr ⟨(wd27 hw), rfl, hnm⟩) (wd2 hw) (ty := .byte) (by decide) rfl rfl z_x (List.mem_of_getElem? (i := 0) rfl) (hb hby dc_jdk_42_method_149_code_48) ?_
  intro T184 h185 W186 Wr187
  have F188 : Fld Z h185 x "java/lang/String" "coder" "B" (.int (1 : Int32)) := (FC.ext X1).same Wr187
  have F189 : Fld Z h185 x "java/lang/String" "value" "[B" .null := (FV.ext X1).other Wr187 (Or.inr (slot_ne (Or.inr (wd29 hw)) (Or.inr (wd27 hw)) (by decide) (t := (.array .byte)) (t' := .byte) (by decide) (by decide)))
  have A190 : Exa Z h185 x "java/lang/String" := (E_x.ext X1).wr Wr187
  show Go p e below s Z [] _ _ _ (T184.setTop (mkF m 51 #[.val (.ref x), .val (.ref ba), .val (.int (0 : Int32)), .val (.int (2 : Int32)), .val .null, .val (.ref ta)] []))
  refine Go.by (fun t9_ q9_ => XS.aloadN W186.here W186.hx rfl (hb hby dc_jdk_42_method_149_code_51) rfl rfl (XS.aload W186.here W186.hx rfl (hb hby dc_jdk_42_method_149_code_52) rfl rfl q9_)) ?_
  show Go p e below s Z [] _ _ _ (T184.setTop (mkF m 54 #[.val (.ref x), .val (.ref ba), .val (.int (0 : Int32)), .val (.int (2 : Int32)), .val .null, .val (.ref ta)] [(.ref ta), (.ref x)]))
  refine W186.putf (host := "") (Or.inl (wd28 hw)) Via.refl F189 A190 (Or.inr ⟨(wd29 hw), rfl, hnm⟩) (wd2 hw) (ty := (.array .byte)) (by decide) rfl rfl z_x (List.mem_of_getElem? (i := 0) rfl) (hb hby dc_jdk_42_method_149_code_54) ?_
  intro T191 h192 W193 Wr194
  have F195 : Fld Z h192 x "java/lang/String" "value" "[B" (.ref ta) := F189.same Wr194
  have F196 : Fld Z h192 x "java/lang/String" "coder" "B" (.int (1 : Int32)) := F188.other Wr194 (Or.inr (slot_ne (Or.inr (wd27 hw)) (Or.inr (wd29 hw)) (by decide) (t := .byte) (t' := (.array .byte)) (by decide) (by decide)))
  have A197 : Exa Z h192 x "java/lang/String" := A190.wr Wr194
  show Go p e below s Z [] _ _ _ (T191.setTop (mkF m 57 #[.val (.ref x), .val (.ref ba), .val (.int (0 : Int32)), .val (.int (2 : Int32)), .val .null, .val (.ref ta)] []))
  exact W193.retV (by decide) (by decide) hret (hb hby dc_jdk_42_method_149_code_57) ⟨rfl, ((((Keep.refl h0 [x]).ext X1).wr Wr187 (Or.inl (List.mem_of_getElem? (i := 0) rfl))).wr Wr194 (Or.inl (List.mem_of_getElem? (i := 0) rfl))), ta, k_ta, A197, F195, F196, ((A_ta.other Wr187 (Exa.ne E_ta (E_x.ext X1) (by decide))).other Wr194 (Exa.ne (E_ta.wr Wr187) A190 (by decide)))⟩
set_option maxRecDepth 65536 in
set_option maxHeartbeats 40000000 in
theorem c_s16_2 (l : Launch) (Z : State) (a0 : Array Value) (hw : ∀ d ∈ tables_1, d.before a0 Z = true) (hEL : EW Z a0 []) (h0 : Heap) (hE0 : Ext Z.heap h0) (x ba : Addr) (kb : ClassId) (c0 c1 G1 : Int32) (E_x : Exa Z h0 x "java/lang/String") (FV : Fld Z h0 x "java/lang/String" "value" "[B" .null) (FC : Fld Z h0 x "java/lang/String" "coder" "B" (.int 0)) (z_x : Z.heap.size ≤ x) (SAD : Sta Z Z.heap "java/lang/StringUTF16" "$assertionsDisabled" "Z" (.int 1)) (SHI : Sta Z Z.heap "java/lang/StringUTF16" "HI_BYTE_SHIFT" "I" (.int 0)) (SLO : Sta Z Z.heap "java/lang/StringUTF16" "LO_BYTE_SHIFT" "I" (.int 8)) (SG1 : Sta Z Z.heap "java/lang/String" "COMPACT_STRINGS" "Z" (.int G1)) (hG : ¬ G1 = 0) (A_b : Arv Z h0 ba kb .char (2 : Int32) [(.int c0), (.int c1)] (.int (0 : Int32))) (r0 : ¬ c0 < 0 ∧ ¬ (65535 : Int32) < c0) (r1 : ¬ c1 < 0 ∧ ¬ (65535 : Int32) < c1) (hbig : (255 : Int32) < c0 ∨ (255 : Int32) < c1) :
    Con l Z [] [x] (⟨"java/lang/String", "<init>", "([C)V"⟩ : MethodName) jdk_42_method_3_code 2 none [] ({ frames := 5, cells := 2, slots := 6, locals := 74 } : Room) #[(.ref x), (.ref ba)] h0 (fun v h' => v = none ∧ Keep h0 h' [x] ∧ ∃ ta kt, Exa Z h' x "java/lang/String" ∧ Fld Z h' x "java/lang/String" "value" "[B" (.ref ta) ∧ Fld Z h' x "java/lang/String" "coder" "B" (.int 1) ∧ Arv Z h' ta kt .byte (4 : Int32) [(.int (StrChars.lo8 c0)), (.int (StrChars.hi8 c0)), (.int (StrChars.lo8 c1)), (.int (StrChars.hi8 c1))] (.int (0 : Int32))) := by
  refine Con.mk (plainFor_of_name pn_1) hEL hE0 (allS E_x.lt all0) ?_
  intro p e s m below meth c T0 hby hml hret hnm W0
  rw [(show entryFrame m #[(.ref x), (.ref ba)] 2 = mkF m 0 #[.val (.ref x), .val (.ref ba)] [] from by first | (simp [entryFrame, mkF, argsToLocals, Value.category]; done) | rfl)]
  refine Go.by (fun t9_ q9_ => XS.aloadN W0.here W0.hx rfl (hb hby dc_jdk_42_method_3_code_0) rfl rfl (XS.aloadN W0.here W0.hx rfl (hb hby dc_jdk_42_method_3_code_1) rfl rfl (XS.iconst W0.here W0.hx rfl (hb hby dc_jdk_42_method_3_code_2) (XS.aloadN W0.here W0.hx rfl (hb hby dc_jdk_42_method_3_code_3) rfl rfl q9_)))) ?_
  show Go p e below s Z [] _ _ _ (T0.setTop (mkF m 4 #[.val (.ref x), .val (.ref ba)] [(.ref ba), (.int (0 : Int32)), (.ref ba), (.ref x)]))
  refine W0.alen A_b (hb hby dc_jdk_42_method_3_code_4) ?_
  show Go p e below s Z [] _ _ _ (T0.setTop (mkF m 5 #[.val (.ref x), .val (.ref ba)] [(.int (2 : Int32)), (.int (0 : Int32)), (.ref ba), (.ref x)]))
  refine Go.by (fun t9_ q9_ => XS.aconstNull W0.here W0.hx rfl (hb hby dc_jdk_42_method_3_code_5) q9_) ?_
  show Go p e below s Z [] _ _ _ (T0.setTop (mkF m 6 #[.val (.ref x), .val (.ref ba)] [.null, (.int (2 : Int32)), (.int (0 : Int32)), (.ref ba), (.ref x)]))
  refine W0.callI (y := (⟨"java/lang/String", "<init>", "([CIILjava/lang/Void;)V"⟩ : MethodName)) rfl (wd7 hw) (wd8 hw) (wd3 hw) (wd10 hw) (by decide) (a := x) (c_s4_2 l Z a0 hw hEL h0 hE0 x ba kb c0 c1 G1 E_x FV FC z_x SAD SHI SLO SG1 hG A_b r0 r1 hbig) (allS (List.mem_of_getElem? (i := 0) rfl) all0) (by decide) (by decide) (k' := 2) (n' := 6) rfl rfl (by decide) (by decide) (by rw [hml]; rfl) (argsL := [(.ref ba), (.int (0 : Int32)), (.int (2 : Int32)), .null]) (rest := []) (lenOf pd_7 rfl) rfl rfl (Wt := 0) (Nat.le_of_eq rfl) (hb hby dc_jdk_42_method_3_code_6) ?_
  intro v_ T198 h200 W199 hq_
  obtain ⟨rfl, K1, S1⟩ := hq_
  show Go p e below s Z [] _ _ _ (T198.setTop (mkF m 9 #[.val (.ref x), .val (.ref ba)] []))
  exact W199.retV (by decide) (by decide) hret (hb hby dc_jdk_42_method_3_code_9) ⟨rfl, K1, S1⟩
set_option maxRecDepth 65536 in
set_option maxHeartbeats 40000000 in
theorem c_nbl3 (l : Launch) (Z : State) (a0 : Array Value) (hw : ∀ d ∈ tables_1, d.before a0 Z = true) (hEL : EW Z a0 []) (h0 : Heap) (hE0 : Ext Z.heap h0)   :
    Con l Z [] [] (⟨"java/lang/StringUTF16", "newBytesLength", "(I)I"⟩ : MethodName) jdk_52_method_3_code 1 (some .int) [] ({ frames := 0, cells := 0, slots := 0, locals := 0 } : Room) #[(.int (3 : Int32))] h0 (fun v h' => v = (some (.int (6 : Int32))) ∧ h' = h0) := by
  refine Con.mk (plainFor_of_name pn_0) hEL hE0 (fun x hx => by cases hx) ?_
  intro p e s m below meth c T0 hby hml hret hnm W0
  rw [(show entryFrame m #[(.int (3 : Int32))] 1 = mkF m 0 #[.val (.int (3 : Int32))] [] from by first | (simp [entryFrame, mkF, argsToLocals, Value.category]; done) | rfl)]
  refine Go.by (fun t9_ q9_ => XS.iloadN W0.here W0.hx rfl (hb hby dc_jdk_52_method_3_code_0) rfl q9_) ?_
  show Go p e below s Z [] _ _ _ (T0.setTop (mkF m 1 #[.val (.int (3 : Int32))] [(.int (3 : Int32))]))
  refine Go.by (fun t9_ q9_ => XS.ifYes W0.here W0.hx rfl (pc0 := 1) (pc' := 12) rfl (hb hby dc_jdk_52_method_3_code_1) rfl ((if0 _ _).trans (flt (by decide)).2.1) (by decide) (by decide) q9_) ?_
  show Go p e below s Z [] _ _ _ (T0.setTop (mkF m 12 #[.val (.int (3 : Int32))] []))
  refine Go.by (fun t9_ q9_ => XS.iloadN W0.here W0.hx rfl (hb hby dc_jdk_52_method_3_code_12) rfl q9_) ?_
  show Go p e below s Z [] _ _ _ (T0.setTop (mkF m 13 #[.val (.int (3 : Int32))] [(.int (3 : Int32))]))
  refine W0.ldcI (wd88 hw) (hb hby dc_jdk_52_method_3_code_13) ?_
  show Go p e below s Z [] _ _ _ (T0.setTop (mkF m 15 #[.val (.int (3 : Int32))] [(.int (1073741823 : Int32)), (.int (3 : Int32))]))
  refine Go.by (fun t9_ q9_ => XS.icmpYes W0.here W0.hx rfl (pc0 := 15) (pc' := 55) rfl (hb hby dc_jdk_52_method_3_code_15) rfl (tlt (by decide)).1 (by decide) (by decide) q9_) ?_
  show Go p e below s Z [] _ _ _ (T0.setTop (mkF m 55 #[.val (.int (3 : Int32))] []))
  refine Go.by (fun t9_ q9_ => XS.iloadN W0.here W0.hx rfl (hb hby dc_jdk_52_method_3_code_55) rfl (XS.iconst W0.here W0.hx rfl (hb hby dc_jdk_52_method_3_code_56) (XS.ishl W0.here W0.hx rfl (hb hby dc_jdk_52_method_3_code_57) rfl q9_))) ?_
  show Go p e below s Z [] _ _ _ (T0.setTop (mkF m 58 #[.val (.int (3 : Int32))] [(.int ((3 : Int32) <<< ((1 : Int32) &&& 31)))]))
  rw [show ((3 : Int32) <<< ((1 : Int32) &&& 31)) = (6 : Int32) from by decide]
  show Go p e below s Z [] _ _ _ (T0.setTop (mkF m 58 #[.val (.int (3 : Int32))] [(.int (6 : Int32))]))
  exact W0.retI (by decide) (by decide) hret (hb hby dc_jdk_52_method_3_code_58) ⟨rfl, rfl⟩
set_option maxRecDepth 65536 in
set_option maxHeartbeats 40000000 in
theorem c_nbf3 (l : Launch) (Z : State) (a0 : Array Value) (hw : ∀ d ∈ tables_1, d.before a0 Z = true) (hEL : EW Z a0 []) (h0 : Heap) (hE0 : Ext Z.heap h0)   :
    Con l Z [] [] (⟨"java/lang/StringUTF16", "newBytesFor", "(I)[B"⟩ : MethodName) jdk_52_method_2_code 1 (some (.array .byte)) [] ({ frames := 1, cells := 1, slots := 6, locals := 12 } : Room) #[(.int (3 : Int32))] h0 (fun v h' => ∃ ta kt, v = some (.ref ta) ∧ Ext h0 h' ∧ Z.heap.size ≤ ta ∧ h0.size = ta ∧ Exa Z h' ta "[B" ∧ Arv Z h' ta kt .byte (6 : Int32) [(.int (0 : Int32)), (.int (0 : Int32)), (.int (0 : Int32)), (.int (0 : Int32)), (.int (0 : Int32)), (.int (0 : Int32))] (.int (0 : Int32))) := by
  refine Con.mk (plainFor_of_name pn_0) hEL hE0 (fun x hx => by cases hx) ?_
  intro p e s m below meth c T0 hby hml hret hnm W0
  rw [(show entryFrame m #[(.int (3 : Int32))] 1 = mkF m 0 #[.val (.int (3 : Int32))] [] from by first | (simp [entryFrame, mkF, argsToLocals, Value.category]; done) | rfl)]
  refine Go.by (fun t9_ q9_ => XS.iloadN W0.here W0.hx rfl (hb hby dc_jdk_52_method_2_code_0) rfl q9_) ?_
  show Go p e below s Z [] _ _ _ (T0.setTop (mkF m 1 #[.val (.int (3 : Int32))] [(.int (3 : Int32))]))
  refine W0.callSp (y := (⟨"java/lang/StringUTF16", "newBytesLength", "(I)I"⟩ : MethodName)) (wd85 hw) (wd86 hw) (wd17 hw) (wd87 hw) (by decide) (c_nbl3 l Z a0 hw hEL h0 hE0) all0 (by decide) (by decide) (k' := 0) (n' := 0) rfl rfl (by decide) (by decide) (by rw [hml]; rfl) (argsL := [(.int (3 : Int32))]) (rest := []) (lenOf pd_0 rfl) rfl rfl (Wt := 0) (Nat.le_of_eq rfl) (hb hby dc_jdk_52_method_2_code_1) ?_
  intro T201 W202
  show Go p e below s Z [] _ _ _ (T201.setTop (mkF m 4 #[.val (.int (3 : Int32))] [(.int (6 : Int32))]))
  refine W202.newp (aty := .byte) (wd19 hw) (hb hby dc_jdk_52_method_2_code_4) (by decide) (cap := 6) (by decide) (by decide) (k' := 1) (n' := 6) rfl rfl (by decide) (by decide) (ad := "[B") rfl ?_
  intro T203 h204 ta k_ta W205 E206 g_ta z_ta A_ta V_ta
  have V1_ta : Arv Z h204 ta k_ta .byte (6 : Int32) [(.int (0 : Int32)), (.int (0 : Int32)), (.int (0 : Int32)), (.int (0 : Int32)), (.int (0 : Int32)), (.int (0 : Int32))] (.int (0 : Int32)) := V_ta.pad (pad_rep [] (.int (0 : Int32)) 6)
  show Go p e below s Z [] _ _ _ (T203.setTop (mkF m 6 #[.val (.int (3 : Int32))] [(.ref ta)]))
  exact W205.retA (by decide) (by decide) hret rfl rfl (hb hby dc_jdk_52_method_2_code_6) ⟨ta, k_ta, rfl, E206, z_ta, g_ta, A_ta, V1_ta⟩
set_option maxRecDepth 65536 in
set_option maxHeartbeats 40000000 in
theorem c_put3_0 (l : Launch) (Z : State) (a0 : Array Value) (hw : ∀ d ∈ tables_1, d.before a0 Z = true) (hEL : EW Z a0 []) (h0 : Heap) (hE0 : Ext Z.heap h0) (ta : Addr) (k_ta : ClassId) (b0 b1 b2 b3 b4 b5 : Value) (cc : Int32) (SAD : Sta Z Z.heap "java/lang/StringUTF16" "$assertionsDisabled" "Z" (.int 1)) (SHI : Sta Z Z.heap "java/lang/StringUTF16" "HI_BYTE_SHIFT" "I" (.int 0)) (SLO : Sta Z Z.heap "java/lang/StringUTF16" "LO_BYTE_SHIFT" "I" (.int 8)) (A_t : Arv Z h0 ta k_ta .byte (6 : Int32) [b0, b1, b2, b3, b4, b5] (.int (0 : Int32))) (z_ta : Z.heap.size ≤ ta) :
    Con l Z [] [ta] (⟨"java/lang/StringUTF16", "putChar", "([BII)V"⟩ : MethodName) jdk_52_method_4_code 3 none [] ({ frames := 0, cells := 0, slots := 0, locals := 0 } : Room) #[(.ref ta), (.int (0 : Int32)), (.int cc)] h0 (fun v h' => v = none ∧ Keep h0 h' [ta] ∧ Arv Z h' ta k_ta .byte (6 : Int32) [(.int (StrChars.lo8 cc)), (.int (StrChars.hi8 cc)), b2, b3, b4, b5] (.int (0 : Int32))) := by
  refine Con.mk (plainFor_of_name pn_0) hEL hE0 (allS A_t.lt all0) ?_
  intro p e s m below meth c T0 hby hml hret hnm W0
  rw [(show entryFrame m #[(.ref ta), (.int (0 : Int32)), (.int cc)] 3 = mkF m 0 #[.val (.ref ta), .val (.int (0 : Int32)), .val (.int cc)] [] from by first | (simp [entryFrame, mkF, argsToLocals, Value.category]; done) | rfl)]
  refine W0.gets (host := "") (Or.inl (wd92 hw)) Via.refl (SAD.ext W0.old) (hb hby dc_jdk_52_method_4_code_0) ?_
  intro T207 W208
  show Go p e below s Z [] _ _ _ (T207.setTop (mkF m 3 #[.val (.ref ta), .val (.int (0 : Int32)), .val (.int cc)] [(.int (1 : Int32))]))
  refine Go.by (fun t9_ q9_ => XS.ifYes W208.here W208.hx rfl (pc0 := 3) (pc' := 28) rfl (hb hby dc_jdk_52_method_4_code_3) rfl ((if0 _ _).trans (feq (by decide)).2) (by decide) (by decide) q9_) ?_
  show Go p e below s Z [] _ _ _ (T207.setTop (mkF m 28 #[.val (.ref ta), .val (.int (0 : Int32)), .val (.int cc)] []))
  refine Go.by (fun t9_ q9_ => XS.iloadN W208.here W208.hx rfl (hb hby dc_jdk_52_method_4_code_28) rfl (XS.iconst W208.here W208.hx rfl (hb hby dc_jdk_52_method_4_code_29) (XS.ishl W208.here W208.hx rfl (hb hby dc_jdk_52_method_4_code_30) rfl (XS.istoreN W208.here W208.hx rfl (hb hby dc_jdk_52_method_4_code_31) rfl (l' := #[.val (.ref ta), .val (.int ((0 : Int32) <<< ((1 : Int32) &&& 31))), .val (.int cc)]) rfl q9_)))) ?_
  show Go p e below s Z [] _ _ _ (T207.setTop (mkF m 32 #[.val (.ref ta), .val (.int ((0 : Int32) <<< ((1 : Int32) &&& 31))), .val (.int cc)] []))
  rw [show ((0 : Int32) <<< ((1 : Int32) &&& 31)) = (0 : Int32) from by decide]
  show Go p e below s Z [] _ _ _ (T207.setTop (mkF m 32 #[.val (.ref ta), .val (.int (0 : Int32)), .val (.int cc)] []))
  refine Go.by (fun t9_ q9_ => XS.aloadN W208.here W208.hx rfl (hb hby dc_jdk_52_method_4_code_32) rfl rfl (XS.iloadN W208.here W208.hx rfl (hb hby dc_jdk_52_method_4_code_33) rfl (XS.iinc W208.here W208.hx rfl (hb hby dc_jdk_52_method_4_code_34) rfl (l' := #[.val (.ref ta), .val (.int ((0 : Int32) + (1 : Int32))), .val (.int cc)]) rfl q9_))) ?_
  show Go p e below s Z [] _ _ _ (T207.setTop (mkF m 37 #[.val (.ref ta), .val (.int ((0 : Int32) + (1 : Int32))), .val (.int cc)] [(.int (0 : Int32)), (.ref ta)]))
  show Go p e below s Z [] _ _ _ (T207.setTop (mkF m 37 #[.val (.ref ta), .val (.int (1 : Int32)), .val (.int cc)] [(.int (0 : Int32)), (.ref ta)]))
  refine Go.by (fun t9_ q9_ => XS.iloadN W208.here W208.hx rfl (hb hby dc_jdk_52_method_4_code_37) rfl q9_) ?_
  show Go p e below s Z [] _ _ _ (T207.setTop (mkF m 38 #[.val (.ref ta), .val (.int (1 : Int32)), .val (.int cc)] [(.int cc), (.int (0 : Int32)), (.ref ta)]))
  refine W208.gets (host := "") (Or.inl (wd93 hw)) Via.refl (SHI.ext W208.old) (hb hby dc_jdk_52_method_4_code_38) ?_
  intro T209 W210
  show Go p e below s Z [] _ _ _ (T209.setTop (mkF m 41 #[.val (.ref ta), .val (.int (1 : Int32)), .val (.int cc)] [(.int (0 : Int32)), (.int cc), (.int (0 : Int32)), (.ref ta)]))
  refine Go.by (fun t9_ q9_ => XS.ishr W210.here W210.hx rfl (hb hby dc_jdk_52_method_4_code_41) rfl (XS.i2b W210.here W210.hx rfl (hb hby dc_jdk_52_method_4_code_42) rfl q9_)) ?_
  show Go p e below s Z [] _ _ _ (T209.setTop (mkF m 43 #[.val (.ref ta), .val (.int (1 : Int32)), .val (.int cc)] [(.int ((cc >>> ((0 : Int32) &&& 31)).toInt8.toInt32)), (.int (0 : Int32)), (.ref ta)]))
  refine W210.bast A_t ⟨by decide, by decide⟩ (i := 0) rfl (by simp) (v' := (StrChars.lo8 cc)) (by rw [StrChars.shr0]; simp [nar, StrChars.lo8, lo8_lo8]) z_ta (List.mem_of_getElem? (i := 0) rfl) (hb hby dc_jdk_52_method_4_code_43) ?_
  intro T211 h212 W213 Wr214 V215_ta'
  have V215_ta : Arv Z h212 ta k_ta .byte (6 : Int32) [(.int (StrChars.lo8 cc)), b1, b2, b3, b4, b5] (.int (0 : Int32)) := V215_ta'
  show Go p e below s Z [] _ _ _ (T211.setTop (mkF m 44 #[.val (.ref ta), .val (.int (1 : Int32)), .val (.int cc)] []))
  refine Go.by (fun t9_ q9_ => XS.aloadN W213.here W213.hx rfl (hb hby dc_jdk_52_method_4_code_44) rfl rfl (XS.iloadN W213.here W213.hx rfl (hb hby dc_jdk_52_method_4_code_45) rfl (XS.iloadN W213.here W213.hx rfl (hb hby dc_jdk_52_method_4_code_46) rfl q9_))) ?_
  show Go p e below s Z [] _ _ _ (T211.setTop (mkF m 47 #[.val (.ref ta), .val (.int (1 : Int32)), .val (.int cc)] [(.int cc), (.int (1 : Int32)), (.ref ta)]))
  refine W213.gets (host := "") (Or.inl (wd94 hw)) Via.refl (SLO.ext W213.old) (hb hby dc_jdk_52_method_4_code_47) ?_
  intro T216 W217
  show Go p e below s Z [] _ _ _ (T216.setTop (mkF m 50 #[.val (.ref ta), .val (.int (1 : Int32)), .val (.int cc)] [(.int (8 : Int32)), (.int cc), (.int (1 : Int32)), (.ref ta)]))
  refine Go.by (fun t9_ q9_ => XS.ishr W217.here W217.hx rfl (hb hby dc_jdk_52_method_4_code_50) rfl (XS.i2b W217.here W217.hx rfl (hb hby dc_jdk_52_method_4_code_51) rfl q9_)) ?_
  show Go p e below s Z [] _ _ _ (T216.setTop (mkF m 52 #[.val (.ref ta), .val (.int (1 : Int32)), .val (.int cc)] [(.int ((cc >>> ((8 : Int32) &&& 31)).toInt8.toInt32)), (.int (1 : Int32)), (.ref ta)]))
  refine W217.bast V215_ta ⟨by decide, by decide⟩ (i := 1) rfl (by simp) (v' := (StrChars.hi8 cc)) (by simp [nar, StrChars.hi8, StrChars.lo8, lo8_lo8]) z_ta (List.mem_of_getElem? (i := 0) rfl) (hb hby dc_jdk_52_method_4_code_52) ?_
  intro T218 h219 W220 Wr221 V222_ta'
  have V222_ta : Arv Z h219 ta k_ta .byte (6 : Int32) [(.int (StrChars.lo8 cc)), (.int (StrChars.hi8 cc)), b2, b3, b4, b5] (.int (0 : Int32)) := V222_ta'
  show Go p e below s Z [] _ _ _ (T218.setTop (mkF m 53 #[.val (.ref ta), .val (.int (1 : Int32)), .val (.int cc)] []))
  exact W220.retV (by decide) (by decide) hret (hb hby dc_jdk_52_method_4_code_53) ⟨rfl, (((Keep.refl h0 [ta]).wr Wr214 (Or.inl (List.mem_of_getElem? (i := 0) rfl))).wr Wr221 (Or.inl (List.mem_of_getElem? (i := 0) rfl))), V222_ta⟩
set_option maxRecDepth 65536 in
set_option maxHeartbeats 40000000 in
theorem c_get3_0 (l : Launch) (Z : State) (a0 : Array Value) (hw : ∀ d ∈ tables_1, d.before a0 Z = true) (hEL : EW Z a0 []) (h0 : Heap) (hE0 : Ext Z.heap h0) (ta : Addr) (k_ta : ClassId) (vs : List Value) (uu vv cc : Int32) (SAD : Sta Z Z.heap "java/lang/StringUTF16" "$assertionsDisabled" "Z" (.int 1)) (SHI : Sta Z Z.heap "java/lang/StringUTF16" "HI_BYTE_SHIFT" "I" (.int 0)) (SLO : Sta Z Z.heap "java/lang/StringUTF16" "LO_BYTE_SHIFT" "I" (.int 8)) (A_t : Arv Z h0 ta k_ta .byte (6 : Int32) vs (.int (0 : Int32))) (hu : vs.getD 0 (.int (0 : Int32)) = .int uu) (hv : vs.getD 1 (.int (0 : Int32)) = .int vv) (hp : StrChars.pairCh uu vv = cc) (r_c : ¬ cc < 0 ∧ ¬ (65535 : Int32) < cc) :
    Con l Z [] [] (⟨"java/lang/StringUTF16", "getChar", "([BI)C"⟩ : MethodName) jdk_52_method_5_code 2 (some .char) [] ({ frames := 0, cells := 0, slots := 0, locals := 0 } : Room) #[(.ref ta), (.int (0 : Int32))] h0 (fun v h' => v = (some (.int cc)) ∧ h' = h0) := by
  refine Con.mk (plainFor_of_name pn_0) hEL hE0 (fun x hx => by cases hx) ?_
  intro p e s m below meth c T0 hby hml hret hnm W0
  rw [(show entryFrame m #[(.ref ta), (.int (0 : Int32))] 2 = mkF m 0 #[.val (.ref ta), .val (.int (0 : Int32))] [] from by first | (simp [entryFrame, mkF, argsToLocals, Value.category]; done) | rfl)]
  refine W0.gets (host := "") (Or.inl (wd92 hw)) Via.refl (SAD.ext W0.old) (hb hby dc_jdk_52_method_5_code_0) ?_
  intro T223 W224
  show Go p e below s Z [] _ _ _ (T223.setTop (mkF m 3 #[.val (.ref ta), .val (.int (0 : Int32))] [(.int (1 : Int32))]))
  refine Go.by (fun t9_ q9_ => XS.ifYes W224.here W224.hx rfl (pc0 := 3) (pc' := 28) rfl (hb hby dc_jdk_52_method_5_code_3) rfl ((if0 _ _).trans (feq (by decide)).2) (by decide) (by decide) q9_) ?_
  show Go p e below s Z [] _ _ _ (T223.setTop (mkF m 28 #[.val (.ref ta), .val (.int (0 : Int32))] []))
  refine Go.by (fun t9_ q9_ => XS.iloadN W224.here W224.hx rfl (hb hby dc_jdk_52_method_5_code_28) rfl (XS.iconst W224.here W224.hx rfl (hb hby dc_jdk_52_method_5_code_29) (XS.ishl W224.here W224.hx rfl (hb hby dc_jdk_52_method_5_code_30) rfl (XS.istoreN W224.here W224.hx rfl (hb hby dc_jdk_52_method_5_code_31) rfl (l' := #[.val (.ref ta), .val (.int ((0 : Int32) <<< ((1 : Int32) &&& 31)))]) rfl q9_)))) ?_
  show Go p e below s Z [] _ _ _ (T223.setTop (mkF m 32 #[.val (.ref ta), .val (.int ((0 : Int32) <<< ((1 : Int32) &&& 31)))] []))
  rw [show ((0 : Int32) <<< ((1 : Int32) &&& 31)) = (0 : Int32) from by decide]
  show Go p e below s Z [] _ _ _ (T223.setTop (mkF m 32 #[.val (.ref ta), .val (.int (0 : Int32))] []))
  refine Go.by (fun t9_ q9_ => XS.aloadN W224.here W224.hx rfl (hb hby dc_jdk_52_method_5_code_32) rfl rfl (XS.iloadN W224.here W224.hx rfl (hb hby dc_jdk_52_method_5_code_33) rfl (XS.iinc W224.here W224.hx rfl (hb hby dc_jdk_52_method_5_code_34) rfl (l' := #[.val (.ref ta), .val (.int ((0 : Int32) + (1 : Int32)))]) rfl q9_))) ?_
  show Go p e below s Z [] _ _ _ (T223.setTop (mkF m 37 #[.val (.ref ta), .val (.int ((0 : Int32) + (1 : Int32)))] [(.int (0 : Int32)), (.ref ta)]))
  show Go p e below s Z [] _ _ _ (T223.setTop (mkF m 37 #[.val (.ref ta), .val (.int (1 : Int32))] [(.int (0 : Int32)), (.ref ta)]))
  refine W224.bald A_t ⟨by decide, by decide⟩ (v := (.int uu)) hu (hb hby dc_jdk_52_method_5_code_37) ?_
  show Go p e below s Z [] _ _ _ (T223.setTop (mkF m 38 #[.val (.ref ta), .val (.int (1 : Int32))] [(.int uu)]))
  refine Go.by (fun t9_ q9_ => XS.sipush W224.here W224.hx rfl (hb hby dc_jdk_52_method_5_code_38) (XS.iand W224.here W224.hx rfl (hb hby dc_jdk_52_method_5_code_41) rfl q9_)) ?_
  show Go p e below s Z [] _ _ _ (T223.setTop (mkF m 42 #[.val (.ref ta), .val (.int (1 : Int32))] [(.int (uu &&& (255 : Int32)))]))
  refine W224.gets (host := "") (Or.inl (wd93 hw)) Via.refl (SHI.ext W224.old) (hb hby dc_jdk_52_method_5_code_42) ?_
  intro T225 W226
  show Go p e below s Z [] _ _ _ (T225.setTop (mkF m 45 #[.val (.ref ta), .val (.int (1 : Int32))] [(.int (0 : Int32)), (.int (uu &&& (255 : Int32)))]))
  refine Go.by (fun t9_ q9_ => XS.ishl W226.here W226.hx rfl (hb hby dc_jdk_52_method_5_code_45) rfl (XS.aloadN W226.here W226.hx rfl (hb hby dc_jdk_52_method_5_code_46) rfl rfl (XS.iloadN W226.here W226.hx rfl (hb hby dc_jdk_52_method_5_code_47) rfl q9_))) ?_
  show Go p e below s Z [] _ _ _ (T225.setTop (mkF m 48 #[.val (.ref ta), .val (.int (1 : Int32))] [(.int (1 : Int32)), (.ref ta), (.int ((uu &&& (255 : Int32)) <<< ((0 : Int32) &&& 31)))]))
  refine W226.bald A_t ⟨by decide, by decide⟩ (v := (.int vv)) hv (hb hby dc_jdk_52_method_5_code_48) ?_
  show Go p e below s Z [] _ _ _ (T225.setTop (mkF m 49 #[.val (.ref ta), .val (.int (1 : Int32))] [(.int vv), (.int ((uu &&& (255 : Int32)) <<< ((0 : Int32) &&& 31)))]))
  refine Go.by (fun t9_ q9_ => XS.sipush W226.here W226.hx rfl (hb hby dc_jdk_52_method_5_code_49) (XS.iand W226.here W226.hx rfl (hb hby dc_jdk_52_method_5_code_52) rfl q9_)) ?_
  show Go p e below s Z [] _ _ _ (T225.setTop (mkF m 53 #[.val (.ref ta), .val (.int (1 : Int32))] [(.int (vv &&& (255 : Int32))), (.int ((uu &&& (255 : Int32)) <<< ((0 : Int32) &&& 31)))]))
  refine W226.gets (host := "") (Or.inl (wd94 hw)) Via.refl (SLO.ext W226.old) (hb hby dc_jdk_52_method_5_code_53) ?_
  intro T227 W228
  show Go p e below s Z [] _ _ _ (T227.setTop (mkF m 56 #[.val (.ref ta), .val (.int (1 : Int32))] [(.int (8 : Int32)), (.int (vv &&& (255 : Int32))), (.int ((uu &&& (255 : Int32)) <<< ((0 : Int32) &&& 31)))]))
  refine Go.by (fun t9_ q9_ => XS.ishl W228.here W228.hx rfl (hb hby dc_jdk_52_method_5_code_56) rfl (XS.ior W228.here W228.hx rfl (hb hby dc_jdk_52_method_5_code_57) rfl (XS.i2c W228.here W228.hx rfl (hb hby dc_jdk_52_method_5_code_58) rfl q9_))) ?_
  show Go p e below s Z [] _ _ _ (T227.setTop (mkF m 59 #[.val (.ref ta), .val (.int (1 : Int32))] [(.int ((((uu &&& (255 : Int32)) <<< ((0 : Int32) &&& 31)) ||| ((vv &&& (255 : Int32)) <<< ((8 : Int32) &&& 31))).toUInt32.toUInt16.toUInt32.toInt32))]))
  exact W228.retN (z' := cc) (by decide) (by decide) hret (by simp) (hb hby dc_jdk_52_method_5_code_59) (by show nar .char (StrChars.pairCh uu vv) = cc; rw [hp]; exact nar_id r_c) ⟨rfl, rfl⟩
set_option maxRecDepth 65536 in
set_option maxHeartbeats 40000000 in
theorem c_put3_1 (l : Launch) (Z : State) (a0 : Array Value) (hw : ∀ d ∈ tables_1, d.before a0 Z = true) (hEL : EW Z a0 []) (h0 : Heap) (hE0 : Ext Z.heap h0) (ta : Addr) (k_ta : ClassId) (b0 b1 b2 b3 b4 b5 : Value) (cc : Int32) (SAD : Sta Z Z.heap "java/lang/StringUTF16" "$assertionsDisabled" "Z" (.int 1)) (SHI : Sta Z Z.heap "java/lang/StringUTF16" "HI_BYTE_SHIFT" "I" (.int 0)) (SLO : Sta Z Z.heap "java/lang/StringUTF16" "LO_BYTE_SHIFT" "I" (.int 8)) (A_t : Arv Z h0 ta k_ta .byte (6 : Int32) [b0, b1, b2, b3, b4, b5] (.int (0 : Int32))) (z_ta : Z.heap.size ≤ ta) :
    Con l Z [] [ta] (⟨"java/lang/StringUTF16", "putChar", "([BII)V"⟩ : MethodName) jdk_52_method_4_code 3 none [] ({ frames := 0, cells := 0, slots := 0, locals := 0 } : Room) #[(.ref ta), (.int (1 : Int32)), (.int cc)] h0 (fun v h' => v = none ∧ Keep h0 h' [ta] ∧ Arv Z h' ta k_ta .byte (6 : Int32) [b0, b1, (.int (StrChars.lo8 cc)), (.int (StrChars.hi8 cc)), b4, b5] (.int (0 : Int32))) := by
  refine Con.mk (plainFor_of_name pn_0) hEL hE0 (allS A_t.lt all0) ?_
  intro p e s m below meth c T0 hby hml hret hnm W0
  rw [(show entryFrame m #[(.ref ta), (.int (1 : Int32)), (.int cc)] 3 = mkF m 0 #[.val (.ref ta), .val (.int (1 : Int32)), .val (.int cc)] [] from by first | (simp [entryFrame, mkF, argsToLocals, Value.category]; done) | rfl)]
  refine W0.gets (host := "") (Or.inl (wd92 hw)) Via.refl (SAD.ext W0.old) (hb hby dc_jdk_52_method_4_code_0) ?_
  intro T229 W230
  show Go p e below s Z [] _ _ _ (T229.setTop (mkF m 3 #[.val (.ref ta), .val (.int (1 : Int32)), .val (.int cc)] [(.int (1 : Int32))]))
  refine Go.by (fun t9_ q9_ => XS.ifYes W230.here W230.hx rfl (pc0 := 3) (pc' := 28) rfl (hb hby dc_jdk_52_method_4_code_3) rfl ((if0 _ _).trans (feq (by decide)).2) (by decide) (by decide) q9_) ?_
  show Go p e below s Z [] _ _ _ (T229.setTop (mkF m 28 #[.val (.ref ta), .val (.int (1 : Int32)), .val (.int cc)] []))
  refine Go.by (fun t9_ q9_ => XS.iloadN W230.here W230.hx rfl (hb hby dc_jdk_52_method_4_code_28) rfl (XS.iconst W230.here W230.hx rfl (hb hby dc_jdk_52_method_4_code_29) (XS.ishl W230.here W230.hx rfl (hb hby dc_jdk_52_method_4_code_30) rfl (XS.istoreN W230.here W230.hx rfl (hb hby dc_jdk_52_method_4_code_31) rfl (l' := #[.val (.ref ta), .val (.int ((1 : Int32) <<< ((1 : Int32) &&& 31))), .val (.int cc)]) rfl q9_)))) ?_
  show Go p e below s Z [] _ _ _ (T229.setTop (mkF m 32 #[.val (.ref ta), .val (.int ((1 : Int32) <<< ((1 : Int32) &&& 31))), .val (.int cc)] []))
  rw [show ((1 : Int32) <<< ((1 : Int32) &&& 31)) = (2 : Int32) from by decide]
  show Go p e below s Z [] _ _ _ (T229.setTop (mkF m 32 #[.val (.ref ta), .val (.int (2 : Int32)), .val (.int cc)] []))
  refine Go.by (fun t9_ q9_ => XS.aloadN W230.here W230.hx rfl (hb hby dc_jdk_52_method_4_code_32) rfl rfl (XS.iloadN W230.here W230.hx rfl (hb hby dc_jdk_52_method_4_code_33) rfl (XS.iinc W230.here W230.hx rfl (hb hby dc_jdk_52_method_4_code_34) rfl (l' := #[.val (.ref ta), .val (.int ((2 : Int32) + (1 : Int32))), .val (.int cc)]) rfl q9_))) ?_
  show Go p e below s Z [] _ _ _ (T229.setTop (mkF m 37 #[.val (.ref ta), .val (.int ((2 : Int32) + (1 : Int32))), .val (.int cc)] [(.int (2 : Int32)), (.ref ta)]))
  show Go p e below s Z [] _ _ _ (T229.setTop (mkF m 37 #[.val (.ref ta), .val (.int (3 : Int32)), .val (.int cc)] [(.int (2 : Int32)), (.ref ta)]))
  refine Go.by (fun t9_ q9_ => XS.iloadN W230.here W230.hx rfl (hb hby dc_jdk_52_method_4_code_37) rfl q9_) ?_
  show Go p e below s Z [] _ _ _ (T229.setTop (mkF m 38 #[.val (.ref ta), .val (.int (3 : Int32)), .val (.int cc)] [(.int cc), (.int (2 : Int32)), (.ref ta)]))
  refine W230.gets (host := "") (Or.inl (wd93 hw)) Via.refl (SHI.ext W230.old) (hb hby dc_jdk_52_method_4_code_38) ?_
  intro T231 W232
  show Go p e below s Z [] _ _ _ (T231.setTop (mkF m 41 #[.val (.ref ta), .val (.int (3 : Int32)), .val (.int cc)] [(.int (0 : Int32)), (.int cc), (.int (2 : Int32)), (.ref ta)]))
  refine Go.by (fun t9_ q9_ => XS.ishr W232.here W232.hx rfl (hb hby dc_jdk_52_method_4_code_41) rfl (XS.i2b W232.here W232.hx rfl (hb hby dc_jdk_52_method_4_code_42) rfl q9_)) ?_
  show Go p e below s Z [] _ _ _ (T231.setTop (mkF m 43 #[.val (.ref ta), .val (.int (3 : Int32)), .val (.int cc)] [(.int ((cc >>> ((0 : Int32) &&& 31)).toInt8.toInt32)), (.int (2 : Int32)), (.ref ta)]))
  refine W232.bast A_t ⟨by decide, by decide⟩ (i := 2) rfl (by simp) (v' := (StrChars.lo8 cc)) (by rw [StrChars.shr0]; simp [nar, StrChars.lo8, lo8_lo8]) z_ta (List.mem_of_getElem? (i := 0) rfl) (hb hby dc_jdk_52_method_4_code_43) ?_
  intro T233 h234 W235 Wr236 V237_ta'
  have V237_ta : Arv Z h234 ta k_ta .byte (6 : Int32) [b0, b1, (.int (StrChars.lo8 cc)), b3, b4, b5] (.int (0 : Int32)) := V237_ta'
  show Go p e below s Z [] _ _ _ (T233.setTop (mkF m 44 #[.val (.ref ta), .val (.int (3 : Int32)), .val (.int cc)] []))
  refine Go.by (fun t9_ q9_ => XS.aloadN W235.here W235.hx rfl (hb hby dc_jdk_52_method_4_code_44) rfl rfl (XS.iloadN W235.here W235.hx rfl (hb hby dc_jdk_52_method_4_code_45) rfl (XS.iloadN W235.here W235.hx rfl (hb hby dc_jdk_52_method_4_code_46) rfl q9_))) ?_
  show Go p e below s Z [] _ _ _ (T233.setTop (mkF m 47 #[.val (.ref ta), .val (.int (3 : Int32)), .val (.int cc)] [(.int cc), (.int (3 : Int32)), (.ref ta)]))
  refine W235.gets (host := "") (Or.inl (wd94 hw)) Via.refl (SLO.ext W235.old) (hb hby dc_jdk_52_method_4_code_47) ?_
  intro T238 W239
  show Go p e below s Z [] _ _ _ (T238.setTop (mkF m 50 #[.val (.ref ta), .val (.int (3 : Int32)), .val (.int cc)] [(.int (8 : Int32)), (.int cc), (.int (3 : Int32)), (.ref ta)]))
  refine Go.by (fun t9_ q9_ => XS.ishr W239.here W239.hx rfl (hb hby dc_jdk_52_method_4_code_50) rfl (XS.i2b W239.here W239.hx rfl (hb hby dc_jdk_52_method_4_code_51) rfl q9_)) ?_
  show Go p e below s Z [] _ _ _ (T238.setTop (mkF m 52 #[.val (.ref ta), .val (.int (3 : Int32)), .val (.int cc)] [(.int ((cc >>> ((8 : Int32) &&& 31)).toInt8.toInt32)), (.int (3 : Int32)), (.ref ta)]))
  refine W239.bast V237_ta ⟨by decide, by decide⟩ (i := 3) rfl (by simp) (v' := (StrChars.hi8 cc)) (by simp [nar, StrChars.hi8, StrChars.lo8, lo8_lo8]) z_ta (List.mem_of_getElem? (i := 0) rfl) (hb hby dc_jdk_52_method_4_code_52) ?_
  intro T240 h241 W242 Wr243 V244_ta'
  have V244_ta : Arv Z h241 ta k_ta .byte (6 : Int32) [b0, b1, (.int (StrChars.lo8 cc)), (.int (StrChars.hi8 cc)), b4, b5] (.int (0 : Int32)) := V244_ta'
  show Go p e below s Z [] _ _ _ (T240.setTop (mkF m 53 #[.val (.ref ta), .val (.int (3 : Int32)), .val (.int cc)] []))
  exact W242.retV (by decide) (by decide) hret (hb hby dc_jdk_52_method_4_code_53) ⟨rfl, (((Keep.refl h0 [ta]).wr Wr236 (Or.inl (List.mem_of_getElem? (i := 0) rfl))).wr Wr243 (Or.inl (List.mem_of_getElem? (i := 0) rfl))), V244_ta⟩
set_option maxRecDepth 65536 in
set_option maxHeartbeats 40000000 in
theorem c_get3_1 (l : Launch) (Z : State) (a0 : Array Value) (hw : ∀ d ∈ tables_1, d.before a0 Z = true) (hEL : EW Z a0 []) (h0 : Heap) (hE0 : Ext Z.heap h0) (ta : Addr) (k_ta : ClassId) (vs : List Value) (uu vv cc : Int32) (SAD : Sta Z Z.heap "java/lang/StringUTF16" "$assertionsDisabled" "Z" (.int 1)) (SHI : Sta Z Z.heap "java/lang/StringUTF16" "HI_BYTE_SHIFT" "I" (.int 0)) (SLO : Sta Z Z.heap "java/lang/StringUTF16" "LO_BYTE_SHIFT" "I" (.int 8)) (A_t : Arv Z h0 ta k_ta .byte (6 : Int32) vs (.int (0 : Int32))) (hu : vs.getD 2 (.int (0 : Int32)) = .int uu) (hv : vs.getD 3 (.int (0 : Int32)) = .int vv) (hp : StrChars.pairCh uu vv = cc) (r_c : ¬ cc < 0 ∧ ¬ (65535 : Int32) < cc) :
    Con l Z [] [] (⟨"java/lang/StringUTF16", "getChar", "([BI)C"⟩ : MethodName) jdk_52_method_5_code 2 (some .char) [] ({ frames := 0, cells := 0, slots := 0, locals := 0 } : Room) #[(.ref ta), (.int (1 : Int32))] h0 (fun v h' => v = (some (.int cc)) ∧ h' = h0) := by
  refine Con.mk (plainFor_of_name pn_0) hEL hE0 (fun x hx => by cases hx) ?_
  intro p e s m below meth c T0 hby hml hret hnm W0
  rw [(show entryFrame m #[(.ref ta), (.int (1 : Int32))] 2 = mkF m 0 #[.val (.ref ta), .val (.int (1 : Int32))] [] from by first | (simp [entryFrame, mkF, argsToLocals, Value.category]; done) | rfl)]
  refine W0.gets (host := "") (Or.inl (wd92 hw)) Via.refl (SAD.ext W0.old) (hb hby dc_jdk_52_method_5_code_0) ?_
  intro T245 W246
  show Go p e below s Z [] _ _ _ (T245.setTop (mkF m 3 #[.val (.ref ta), .val (.int (1 : Int32))] [(.int (1 : Int32))]))
  refine Go.by (fun t9_ q9_ => XS.ifYes W246.here W246.hx rfl (pc0 := 3) (pc' := 28) rfl (hb hby dc_jdk_52_method_5_code_3) rfl ((if0 _ _).trans (feq (by decide)).2) (by decide) (by decide) q9_) ?_
  show Go p e below s Z [] _ _ _ (T245.setTop (mkF m 28 #[.val (.ref ta), .val (.int (1 : Int32))] []))
  refine Go.by (fun t9_ q9_ => XS.iloadN W246.here W246.hx rfl (hb hby dc_jdk_52_method_5_code_28) rfl (XS.iconst W246.here W246.hx rfl (hb hby dc_jdk_52_method_5_code_29) (XS.ishl W246.here W246.hx rfl (hb hby dc_jdk_52_method_5_code_30) rfl (XS.istoreN W246.here W246.hx rfl (hb hby dc_jdk_52_method_5_code_31) rfl (l' := #[.val (.ref ta), .val (.int ((1 : Int32) <<< ((1 : Int32) &&& 31)))]) rfl q9_)))) ?_
  show Go p e below s Z [] _ _ _ (T245.setTop (mkF m 32 #[.val (.ref ta), .val (.int ((1 : Int32) <<< ((1 : Int32) &&& 31)))] []))
  rw [show ((1 : Int32) <<< ((1 : Int32) &&& 31)) = (2 : Int32) from by decide]
  show Go p e below s Z [] _ _ _ (T245.setTop (mkF m 32 #[.val (.ref ta), .val (.int (2 : Int32))] []))
  refine Go.by (fun t9_ q9_ => XS.aloadN W246.here W246.hx rfl (hb hby dc_jdk_52_method_5_code_32) rfl rfl (XS.iloadN W246.here W246.hx rfl (hb hby dc_jdk_52_method_5_code_33) rfl (XS.iinc W246.here W246.hx rfl (hb hby dc_jdk_52_method_5_code_34) rfl (l' := #[.val (.ref ta), .val (.int ((2 : Int32) + (1 : Int32)))]) rfl q9_))) ?_
  show Go p e below s Z [] _ _ _ (T245.setTop (mkF m 37 #[.val (.ref ta), .val (.int ((2 : Int32) + (1 : Int32)))] [(.int (2 : Int32)), (.ref ta)]))
  show Go p e below s Z [] _ _ _ (T245.setTop (mkF m 37 #[.val (.ref ta), .val (.int (3 : Int32))] [(.int (2 : Int32)), (.ref ta)]))
  refine W246.bald A_t ⟨by decide, by decide⟩ (v := (.int uu)) hu (hb hby dc_jdk_52_method_5_code_37) ?_
  show Go p e below s Z [] _ _ _ (T245.setTop (mkF m 38 #[.val (.ref ta), .val (.int (3 : Int32))] [(.int uu)]))
  refine Go.by (fun t9_ q9_ => XS.sipush W246.here W246.hx rfl (hb hby dc_jdk_52_method_5_code_38) (XS.iand W246.here W246.hx rfl (hb hby dc_jdk_52_method_5_code_41) rfl q9_)) ?_
  show Go p e below s Z [] _ _ _ (T245.setTop (mkF m 42 #[.val (.ref ta), .val (.int (3 : Int32))] [(.int (uu &&& (255 : Int32)))]))
  refine W246.gets (host := "") (Or.inl (wd93 hw)) Via.refl (SHI.ext W246.old) (hb hby dc_jdk_52_method_5_code_42) ?_
  intro T247 W248
  show Go p e below s Z [] _ _ _ (T247.setTop (mkF m 45 #[.val (.ref ta), .val (.int (3 : Int32))] [(.int (0 : Int32)), (.int (uu &&& (255 : Int32)))]))
  refine Go.by (fun t9_ q9_ => XS.ishl W248.here W248.hx rfl (hb hby dc_jdk_52_method_5_code_45) rfl (XS.aloadN W248.here W248.hx rfl (hb hby dc_jdk_52_method_5_code_46) rfl rfl (XS.iloadN W248.here W248.hx rfl (hb hby dc_jdk_52_method_5_code_47) rfl q9_))) ?_
  show Go p e below s Z [] _ _ _ (T247.setTop (mkF m 48 #[.val (.ref ta), .val (.int (3 : Int32))] [(.int (3 : Int32)), (.ref ta), (.int ((uu &&& (255 : Int32)) <<< ((0 : Int32) &&& 31)))]))
  refine W248.bald A_t ⟨by decide, by decide⟩ (v := (.int vv)) hv (hb hby dc_jdk_52_method_5_code_48) ?_
  show Go p e below s Z [] _ _ _ (T247.setTop (mkF m 49 #[.val (.ref ta), .val (.int (3 : Int32))] [(.int vv), (.int ((uu &&& (255 : Int32)) <<< ((0 : Int32) &&& 31)))]))
  refine Go.by (fun t9_ q9_ => XS.sipush W248.here W248.hx rfl (hb hby dc_jdk_52_method_5_code_49) (XS.iand W248.here W248.hx rfl (hb hby dc_jdk_52_method_5_code_52) rfl q9_)) ?_
  show Go p e below s Z [] _ _ _ (T247.setTop (mkF m 53 #[.val (.ref ta), .val (.int (3 : Int32))] [(.int (vv &&& (255 : Int32))), (.int ((uu &&& (255 : Int32)) <<< ((0 : Int32) &&& 31)))]))
  refine W248.gets (host := "") (Or.inl (wd94 hw)) Via.refl (SLO.ext W248.old) (hb hby dc_jdk_52_method_5_code_53) ?_
  intro T249 W250
  show Go p e below s Z [] _ _ _ (T249.setTop (mkF m 56 #[.val (.ref ta), .val (.int (3 : Int32))] [(.int (8 : Int32)), (.int (vv &&& (255 : Int32))), (.int ((uu &&& (255 : Int32)) <<< ((0 : Int32) &&& 31)))]))
  refine Go.by (fun t9_ q9_ => XS.ishl W250.here W250.hx rfl (hb hby dc_jdk_52_method_5_code_56) rfl (XS.ior W250.here W250.hx rfl (hb hby dc_jdk_52_method_5_code_57) rfl (XS.i2c W250.here W250.hx rfl (hb hby dc_jdk_52_method_5_code_58) rfl q9_))) ?_
  show Go p e below s Z [] _ _ _ (T249.setTop (mkF m 59 #[.val (.ref ta), .val (.int (3 : Int32))] [(.int ((((uu &&& (255 : Int32)) <<< ((0 : Int32) &&& 31)) ||| ((vv &&& (255 : Int32)) <<< ((8 : Int32) &&& 31))).toUInt32.toUInt16.toUInt32.toInt32))]))
  exact W250.retN (z' := cc) (by decide) (by decide) hret (by simp) (hb hby dc_jdk_52_method_5_code_59) (by show nar .char (StrChars.pairCh uu vv) = cc; rw [hp]; exact nar_id r_c) ⟨rfl, rfl⟩
set_option maxRecDepth 65536 in
set_option maxHeartbeats 40000000 in
theorem c_put3_2 (l : Launch) (Z : State) (a0 : Array Value) (hw : ∀ d ∈ tables_1, d.before a0 Z = true) (hEL : EW Z a0 []) (h0 : Heap) (hE0 : Ext Z.heap h0) (ta : Addr) (k_ta : ClassId) (b0 b1 b2 b3 b4 b5 : Value) (cc : Int32) (SAD : Sta Z Z.heap "java/lang/StringUTF16" "$assertionsDisabled" "Z" (.int 1)) (SHI : Sta Z Z.heap "java/lang/StringUTF16" "HI_BYTE_SHIFT" "I" (.int 0)) (SLO : Sta Z Z.heap "java/lang/StringUTF16" "LO_BYTE_SHIFT" "I" (.int 8)) (A_t : Arv Z h0 ta k_ta .byte (6 : Int32) [b0, b1, b2, b3, b4, b5] (.int (0 : Int32))) (z_ta : Z.heap.size ≤ ta) :
    Con l Z [] [ta] (⟨"java/lang/StringUTF16", "putChar", "([BII)V"⟩ : MethodName) jdk_52_method_4_code 3 none [] ({ frames := 0, cells := 0, slots := 0, locals := 0 } : Room) #[(.ref ta), (.int (2 : Int32)), (.int cc)] h0 (fun v h' => v = none ∧ Keep h0 h' [ta] ∧ Arv Z h' ta k_ta .byte (6 : Int32) [b0, b1, b2, b3, (.int (StrChars.lo8 cc)), (.int (StrChars.hi8 cc))] (.int (0 : Int32))) := by
  refine Con.mk (plainFor_of_name pn_0) hEL hE0 (allS A_t.lt all0) ?_
  intro p e s m below meth c T0 hby hml hret hnm W0
  rw [(show entryFrame m #[(.ref ta), (.int (2 : Int32)), (.int cc)] 3 = mkF m 0 #[.val (.ref ta), .val (.int (2 : Int32)), .val (.int cc)] [] from by first | (simp [entryFrame, mkF, argsToLocals, Value.category]; done) | rfl)]
  refine W0.gets (host := "") (Or.inl (wd92 hw)) Via.refl (SAD.ext W0.old) (hb hby dc_jdk_52_method_4_code_0) ?_
  intro T251 W252
  show Go p e below s Z [] _ _ _ (T251.setTop (mkF m 3 #[.val (.ref ta), .val (.int (2 : Int32)), .val (.int cc)] [(.int (1 : Int32))]))
  refine Go.by (fun t9_ q9_ => XS.ifYes W252.here W252.hx rfl (pc0 := 3) (pc' := 28) rfl (hb hby dc_jdk_52_method_4_code_3) rfl ((if0 _ _).trans (feq (by decide)).2) (by decide) (by decide) q9_) ?_
  show Go p e below s Z [] _ _ _ (T251.setTop (mkF m 28 #[.val (.ref ta), .val (.int (2 : Int32)), .val (.int cc)] []))
  refine Go.by (fun t9_ q9_ => XS.iloadN W252.here W252.hx rfl (hb hby dc_jdk_52_method_4_code_28) rfl (XS.iconst W252.here W252.hx rfl (hb hby dc_jdk_52_method_4_code_29) (XS.ishl W252.here W252.hx rfl (hb hby dc_jdk_52_method_4_code_30) rfl (XS.istoreN W252.here W252.hx rfl (hb hby dc_jdk_52_method_4_code_31) rfl (l' := #[.val (.ref ta), .val (.int ((2 : Int32) <<< ((1 : Int32) &&& 31))), .val (.int cc)]) rfl q9_)))) ?_
  show Go p e below s Z [] _ _ _ (T251.setTop (mkF m 32 #[.val (.ref ta), .val (.int ((2 : Int32) <<< ((1 : Int32) &&& 31))), .val (.int cc)] []))
  rw [show ((2 : Int32) <<< ((1 : Int32) &&& 31)) = (4 : Int32) from by decide]
  show Go p e below s Z [] _ _ _ (T251.setTop (mkF m 32 #[.val (.ref ta), .val (.int (4 : Int32)), .val (.int cc)] []))
  refine Go.by (fun t9_ q9_ => XS.aloadN W252.here W252.hx rfl (hb hby dc_jdk_52_method_4_code_32) rfl rfl (XS.iloadN W252.here W252.hx rfl (hb hby dc_jdk_52_method_4_code_33) rfl (XS.iinc W252.here W252.hx rfl (hb hby dc_jdk_52_method_4_code_34) rfl (l' := #[.val (.ref ta), .val (.int ((4 : Int32) + (1 : Int32))), .val (.int cc)]) rfl q9_))) ?_
  show Go p e below s Z [] _ _ _ (T251.setTop (mkF m 37 #[.val (.ref ta), .val (.int ((4 : Int32) + (1 : Int32))), .val (.int cc)] [(.int (4 : Int32)), (.ref ta)]))
  show Go p e below s Z [] _ _ _ (T251.setTop (mkF m 37 #[.val (.ref ta), .val (.int (5 : Int32)), .val (.int cc)] [(.int (4 : Int32)), (.ref ta)]))
  refine Go.by (fun t9_ q9_ => XS.iloadN W252.here W252.hx rfl (hb hby dc_jdk_52_method_4_code_37) rfl q9_) ?_
  show Go p e below s Z [] _ _ _ (T251.setTop (mkF m 38 #[.val (.ref ta), .val (.int (5 : Int32)), .val (.int cc)] [(.int cc), (.int (4 : Int32)), (.ref ta)]))
  refine W252.gets (host := "") (Or.inl (wd93 hw)) Via.refl (SHI.ext W252.old) (hb hby dc_jdk_52_method_4_code_38) ?_
  intro T253 W254
  show Go p e below s Z [] _ _ _ (T253.setTop (mkF m 41 #[.val (.ref ta), .val (.int (5 : Int32)), .val (.int cc)] [(.int (0 : Int32)), (.int cc), (.int (4 : Int32)), (.ref ta)]))
  refine Go.by (fun t9_ q9_ => XS.ishr W254.here W254.hx rfl (hb hby dc_jdk_52_method_4_code_41) rfl (XS.i2b W254.here W254.hx rfl (hb hby dc_jdk_52_method_4_code_42) rfl q9_)) ?_
  show Go p e below s Z [] _ _ _ (T253.setTop (mkF m 43 #[.val (.ref ta), .val (.int (5 : Int32)), .val (.int cc)] [(.int ((cc >>> ((0 : Int32) &&& 31)).toInt8.toInt32)), (.int (4 : Int32)), (.ref ta)]))
  refine W254.bast A_t ⟨by decide, by decide⟩ (i := 4) rfl (by simp) (v' := (StrChars.lo8 cc)) (by rw [StrChars.shr0]; simp [nar, StrChars.lo8, lo8_lo8]) z_ta (List.mem_of_getElem? (i := 0) rfl) (hb hby dc_jdk_52_method_4_code_43) ?_
  intro T255 h256 W257 Wr258 V259_ta'
  have V259_ta : Arv Z h256 ta k_ta .byte (6 : Int32) [b0, b1, b2, b3, (.int (StrChars.lo8 cc)), b5] (.int (0 : Int32)) := V259_ta'
  show Go p e below s Z [] _ _ _ (T255.setTop (mkF m 44 #[.val (.ref ta), .val (.int (5 : Int32)), .val (.int cc)] []))
  refine Go.by (fun t9_ q9_ => XS.aloadN W257.here W257.hx rfl (hb hby dc_jdk_52_method_4_code_44) rfl rfl (XS.iloadN W257.here W257.hx rfl (hb hby dc_jdk_52_method_4_code_45) rfl (XS.iloadN W257.here W257.hx rfl (hb hby dc_jdk_52_method_4_code_46) rfl q9_))) ?_
  show Go p e below s Z [] _ _ _ (T255.setTop (mkF m 47 #[.val (.ref ta), .val (.int (5 : Int32)), .val (.int cc)] [(.int cc), (.int (5 : Int32)), (.ref ta)]))
  refine W257.gets (host := "") (Or.inl (wd94 hw)) Via.refl (SLO.ext W257.old) (hb hby dc_jdk_52_method_4_code_47) ?_
  intro T260 W261
  show Go p e below s Z [] _ _ _ (T260.setTop (mkF m 50 #[.val (.ref ta), .val (.int (5 : Int32)), .val (.int cc)] [(.int (8 : Int32)), (.int cc), (.int (5 : Int32)), (.ref ta)]))
  refine Go.by (fun t9_ q9_ => XS.ishr W261.here W261.hx rfl (hb hby dc_jdk_52_method_4_code_50) rfl (XS.i2b W261.here W261.hx rfl (hb hby dc_jdk_52_method_4_code_51) rfl q9_)) ?_
  show Go p e below s Z [] _ _ _ (T260.setTop (mkF m 52 #[.val (.ref ta), .val (.int (5 : Int32)), .val (.int cc)] [(.int ((cc >>> ((8 : Int32) &&& 31)).toInt8.toInt32)), (.int (5 : Int32)), (.ref ta)]))
  refine W261.bast V259_ta ⟨by decide, by decide⟩ (i := 5) rfl (by simp) (v' := (StrChars.hi8 cc)) (by simp [nar, StrChars.hi8, StrChars.lo8, lo8_lo8]) z_ta (List.mem_of_getElem? (i := 0) rfl) (hb hby dc_jdk_52_method_4_code_52) ?_
  intro T262 h263 W264 Wr265 V266_ta'
  have V266_ta : Arv Z h263 ta k_ta .byte (6 : Int32) [b0, b1, b2, b3, (.int (StrChars.lo8 cc)), (.int (StrChars.hi8 cc))] (.int (0 : Int32)) := V266_ta'
  show Go p e below s Z [] _ _ _ (T262.setTop (mkF m 53 #[.val (.ref ta), .val (.int (5 : Int32)), .val (.int cc)] []))
  exact W264.retV (by decide) (by decide) hret (hb hby dc_jdk_52_method_4_code_53) ⟨rfl, (((Keep.refl h0 [ta]).wr Wr258 (Or.inl (List.mem_of_getElem? (i := 0) rfl))).wr Wr265 (Or.inl (List.mem_of_getElem? (i := 0) rfl))), V266_ta⟩
set_option maxRecDepth 65536 in
set_option maxHeartbeats 40000000 in
theorem c_get3_2 (l : Launch) (Z : State) (a0 : Array Value) (hw : ∀ d ∈ tables_1, d.before a0 Z = true) (hEL : EW Z a0 []) (h0 : Heap) (hE0 : Ext Z.heap h0) (ta : Addr) (k_ta : ClassId) (vs : List Value) (uu vv cc : Int32) (SAD : Sta Z Z.heap "java/lang/StringUTF16" "$assertionsDisabled" "Z" (.int 1)) (SHI : Sta Z Z.heap "java/lang/StringUTF16" "HI_BYTE_SHIFT" "I" (.int 0)) (SLO : Sta Z Z.heap "java/lang/StringUTF16" "LO_BYTE_SHIFT" "I" (.int 8)) (A_t : Arv Z h0 ta k_ta .byte (6 : Int32) vs (.int (0 : Int32))) (hu : vs.getD 4 (.int (0 : Int32)) = .int uu) (hv : vs.getD 5 (.int (0 : Int32)) = .int vv) (hp : StrChars.pairCh uu vv = cc) (r_c : ¬ cc < 0 ∧ ¬ (65535 : Int32) < cc) :
    Con l Z [] [] (⟨"java/lang/StringUTF16", "getChar", "([BI)C"⟩ : MethodName) jdk_52_method_5_code 2 (some .char) [] ({ frames := 0, cells := 0, slots := 0, locals := 0 } : Room) #[(.ref ta), (.int (2 : Int32))] h0 (fun v h' => v = (some (.int cc)) ∧ h' = h0) := by
  refine Con.mk (plainFor_of_name pn_0) hEL hE0 (fun x hx => by cases hx) ?_
  intro p e s m below meth c T0 hby hml hret hnm W0
  rw [(show entryFrame m #[(.ref ta), (.int (2 : Int32))] 2 = mkF m 0 #[.val (.ref ta), .val (.int (2 : Int32))] [] from by first | (simp [entryFrame, mkF, argsToLocals, Value.category]; done) | rfl)]
  refine W0.gets (host := "") (Or.inl (wd92 hw)) Via.refl (SAD.ext W0.old) (hb hby dc_jdk_52_method_5_code_0) ?_
  intro T267 W268
  show Go p e below s Z [] _ _ _ (T267.setTop (mkF m 3 #[.val (.ref ta), .val (.int (2 : Int32))] [(.int (1 : Int32))]))
  refine Go.by (fun t9_ q9_ => XS.ifYes W268.here W268.hx rfl (pc0 := 3) (pc' := 28) rfl (hb hby dc_jdk_52_method_5_code_3) rfl ((if0 _ _).trans (feq (by decide)).2) (by decide) (by decide) q9_) ?_
  show Go p e below s Z [] _ _ _ (T267.setTop (mkF m 28 #[.val (.ref ta), .val (.int (2 : Int32))] []))
  refine Go.by (fun t9_ q9_ => XS.iloadN W268.here W268.hx rfl (hb hby dc_jdk_52_method_5_code_28) rfl (XS.iconst W268.here W268.hx rfl (hb hby dc_jdk_52_method_5_code_29) (XS.ishl W268.here W268.hx rfl (hb hby dc_jdk_52_method_5_code_30) rfl (XS.istoreN W268.here W268.hx rfl (hb hby dc_jdk_52_method_5_code_31) rfl (l' := #[.val (.ref ta), .val (.int ((2 : Int32) <<< ((1 : Int32) &&& 31)))]) rfl q9_)))) ?_
  show Go p e below s Z [] _ _ _ (T267.setTop (mkF m 32 #[.val (.ref ta), .val (.int ((2 : Int32) <<< ((1 : Int32) &&& 31)))] []))
  rw [show ((2 : Int32) <<< ((1 : Int32) &&& 31)) = (4 : Int32) from by decide]
  show Go p e below s Z [] _ _ _ (T267.setTop (mkF m 32 #[.val (.ref ta), .val (.int (4 : Int32))] []))
  refine Go.by (fun t9_ q9_ => XS.aloadN W268.here W268.hx rfl (hb hby dc_jdk_52_method_5_code_32) rfl rfl (XS.iloadN W268.here W268.hx rfl (hb hby dc_jdk_52_method_5_code_33) rfl (XS.iinc W268.here W268.hx rfl (hb hby dc_jdk_52_method_5_code_34) rfl (l' := #[.val (.ref ta), .val (.int ((4 : Int32) + (1 : Int32)))]) rfl q9_))) ?_
  show Go p e below s Z [] _ _ _ (T267.setTop (mkF m 37 #[.val (.ref ta), .val (.int ((4 : Int32) + (1 : Int32)))] [(.int (4 : Int32)), (.ref ta)]))
  show Go p e below s Z [] _ _ _ (T267.setTop (mkF m 37 #[.val (.ref ta), .val (.int (5 : Int32))] [(.int (4 : Int32)), (.ref ta)]))
  refine W268.bald A_t ⟨by decide, by decide⟩ (v := (.int uu)) hu (hb hby dc_jdk_52_method_5_code_37) ?_
  show Go p e below s Z [] _ _ _ (T267.setTop (mkF m 38 #[.val (.ref ta), .val (.int (5 : Int32))] [(.int uu)]))
  refine Go.by (fun t9_ q9_ => XS.sipush W268.here W268.hx rfl (hb hby dc_jdk_52_method_5_code_38) (XS.iand W268.here W268.hx rfl (hb hby dc_jdk_52_method_5_code_41) rfl q9_)) ?_
  show Go p e below s Z [] _ _ _ (T267.setTop (mkF m 42 #[.val (.ref ta), .val (.int (5 : Int32))] [(.int (uu &&& (255 : Int32)))]))
  refine W268.gets (host := "") (Or.inl (wd93 hw)) Via.refl (SHI.ext W268.old) (hb hby dc_jdk_52_method_5_code_42) ?_
  intro T269 W270
  show Go p e below s Z [] _ _ _ (T269.setTop (mkF m 45 #[.val (.ref ta), .val (.int (5 : Int32))] [(.int (0 : Int32)), (.int (uu &&& (255 : Int32)))]))
  refine Go.by (fun t9_ q9_ => XS.ishl W270.here W270.hx rfl (hb hby dc_jdk_52_method_5_code_45) rfl (XS.aloadN W270.here W270.hx rfl (hb hby dc_jdk_52_method_5_code_46) rfl rfl (XS.iloadN W270.here W270.hx rfl (hb hby dc_jdk_52_method_5_code_47) rfl q9_))) ?_
  show Go p e below s Z [] _ _ _ (T269.setTop (mkF m 48 #[.val (.ref ta), .val (.int (5 : Int32))] [(.int (5 : Int32)), (.ref ta), (.int ((uu &&& (255 : Int32)) <<< ((0 : Int32) &&& 31)))]))
  refine W270.bald A_t ⟨by decide, by decide⟩ (v := (.int vv)) hv (hb hby dc_jdk_52_method_5_code_48) ?_
  show Go p e below s Z [] _ _ _ (T269.setTop (mkF m 49 #[.val (.ref ta), .val (.int (5 : Int32))] [(.int vv), (.int ((uu &&& (255 : Int32)) <<< ((0 : Int32) &&& 31)))]))
  refine Go.by (fun t9_ q9_ => XS.sipush W270.here W270.hx rfl (hb hby dc_jdk_52_method_5_code_49) (XS.iand W270.here W270.hx rfl (hb hby dc_jdk_52_method_5_code_52) rfl q9_)) ?_
  show Go p e below s Z [] _ _ _ (T269.setTop (mkF m 53 #[.val (.ref ta), .val (.int (5 : Int32))] [(.int (vv &&& (255 : Int32))), (.int ((uu &&& (255 : Int32)) <<< ((0 : Int32) &&& 31)))]))
  refine W270.gets (host := "") (Or.inl (wd94 hw)) Via.refl (SLO.ext W270.old) (hb hby dc_jdk_52_method_5_code_53) ?_
  intro T271 W272
  show Go p e below s Z [] _ _ _ (T271.setTop (mkF m 56 #[.val (.ref ta), .val (.int (5 : Int32))] [(.int (8 : Int32)), (.int (vv &&& (255 : Int32))), (.int ((uu &&& (255 : Int32)) <<< ((0 : Int32) &&& 31)))]))
  refine Go.by (fun t9_ q9_ => XS.ishl W272.here W272.hx rfl (hb hby dc_jdk_52_method_5_code_56) rfl (XS.ior W272.here W272.hx rfl (hb hby dc_jdk_52_method_5_code_57) rfl (XS.i2c W272.here W272.hx rfl (hb hby dc_jdk_52_method_5_code_58) rfl q9_))) ?_
  show Go p e below s Z [] _ _ _ (T271.setTop (mkF m 59 #[.val (.ref ta), .val (.int (5 : Int32))] [(.int ((((uu &&& (255 : Int32)) <<< ((0 : Int32) &&& 31)) ||| ((vv &&& (255 : Int32)) <<< ((8 : Int32) &&& 31))).toUInt32.toUInt16.toUInt32.toInt32))]))
  exact W272.retN (z' := cc) (by decide) (by decide) hret (by simp) (hb hby dc_jdk_52_method_5_code_59) (by show nar .char (StrChars.pairCh uu vv) = cc; rw [hp]; exact nar_id r_c) ⟨rfl, rfl⟩
set_option maxRecDepth 65536 in
set_option maxHeartbeats 40000000 in
theorem c_tb3 (l : Launch) (Z : State) (a0 : Array Value) (hw : ∀ d ∈ tables_1, d.before a0 Z = true) (hEL : EW Z a0 []) (h0 : Heap) (hE0 : Ext Z.heap h0) (ba : Addr) (kb : ClassId) (c0 c1 c2 : Int32) (SAD : Sta Z Z.heap "java/lang/StringUTF16" "$assertionsDisabled" "Z" (.int 1)) (SHI : Sta Z Z.heap "java/lang/StringUTF16" "HI_BYTE_SHIFT" "I" (.int 0)) (SLO : Sta Z Z.heap "java/lang/StringUTF16" "LO_BYTE_SHIFT" "I" (.int 8)) (A_b : Arv Z h0 ba kb .char (3 : Int32) [(.int c0), (.int c1), (.int c2)] (.int (0 : Int32))) :
    Con l Z [] [] (⟨"java/lang/StringUTF16", "toBytes", "([CII)[B"⟩ : MethodName) jdk_52_method_14_code 5 (some (.array .byte)) [] ({ frames := 2, cells := 1, slots := 6, locals := 24 } : Room) #[(.ref ba), (.int (0 : Int32)), (.int (3 : Int32))] h0 (fun v h' => ∃ ta kt, v = some (.ref ta) ∧ Ext h0 h' ∧ Exa Z h' ta "[B" ∧ Arv Z h' ta kt .byte (6 : Int32) [(.int (StrChars.lo8 c0)), (.int (StrChars.hi8 c0)), (.int (StrChars.lo8 c1)), (.int (StrChars.hi8 c1)), (.int (StrChars.lo8 c2)), (.int (StrChars.hi8 c2))] (.int (0 : Int32))) := by
  refine Con.mk (plainFor_of_name pn_0) hEL hE0 (fun x hx => by cases hx) ?_
  intro p e s m below meth c T0 hby hml hret hnm W0
  rw [(show entryFrame m #[(.ref ba), (.int (0 : Int32)), (.int (3 : Int32))] 5 = mkF m 0 #[.val (.ref ba), .val (.int (0 : Int32)), .val (.int (3 : Int32)), .unset, .unset] [] from by first | (simp [entryFrame, mkF, argsToLocals, Value.category]; done) | rfl)]
  refine Go.by (fun t9_ q9_ => XS.iloadN W0.here W0.hx rfl (hb hby dc_jdk_52_method_14_code_0) rfl q9_) ?_
  show Go p e below s Z [] _ _ _ (T0.setTop (mkF m 1 #[.val (.ref ba), .val (.int (0 : Int32)), .val (.int (3 : Int32)), .unset, .unset] [(.int (3 : Int32))]))
  refine W0.callS (y := (⟨"java/lang/StringUTF16", "newBytesFor", "(I)[B"⟩ : MethodName)) (wd82 hw) (wd83 hw) (wd17 hw) (wd84 hw) (by decide) (c_nbf3 l Z a0 hw hEL h0 hE0) all0 (by decide) (by decide) (k' := 1) (n' := 6) rfl rfl (by decide) (by decide) (by rw [hml]; rfl) (argsL := [(.int (3 : Int32))]) (rest := []) (lenOf pd_1 rfl) rfl rfl (Wt := 0) (Nat.le_of_eq rfl) (hb hby dc_jdk_52_method_14_code_1) ?_
  intro v_ T273 h275 W274 hq_
  obtain ⟨ta, k_ta, rfl, X1, z_ta, g_ta, E_ta, A_ta⟩ := hq_
  show Go p e below s Z [] _ _ _ (T273.setTop (mkF m 4 #[.val (.ref ba), .val (.int (0 : Int32)), .val (.int (3 : Int32)), .unset, .unset] [(.ref ta)]))
  have W276 := W274.safeN (A_ta.lt)
  refine Go.by (fun t9_ q9_ => XS.astoreN W276.here W276.hx rfl (hb hby dc_jdk_52_method_14_code_4) rfl rfl (l' := #[.val (.ref ba), .val (.int (0 : Int32)), .val (.int (3 : Int32)), .val (.ref ta), .unset]) rfl (XS.iconst W276.here W276.hx rfl (hb hby dc_jdk_52_method_14_code_5) (XS.istore W276.here W276.hx rfl (hb hby dc_jdk_52_method_14_code_6) rfl (l' := #[.val (.ref ba), .val (.int (0 : Int32)), .val (.int (3 : Int32)), .val (.ref ta), .val (.int (0 : Int32))]) rfl (XS.iload W276.here W276.hx rfl (hb hby dc_jdk_52_method_14_code_8) rfl (XS.iloadN W276.here W276.hx rfl (hb hby dc_jdk_52_method_14_code_10) rfl q9_))))) ?_
  show Go p e below s Z [] _ _ _ (T273.setTop (mkF m 11 #[.val (.ref ba), .val (.int (0 : Int32)), .val (.int (3 : Int32)), .val (.ref ta), .val (.int (0 : Int32))] [(.int (3 : Int32)), (.int (0 : Int32))]))
  refine Go.by (fun t9_ q9_ => XS.icmpNo W276.here W276.hx rfl (hb hby dc_jdk_52_method_14_code_11) rfl (tlt (by decide)).2.1 q9_) ?_
  show Go p e below s Z [] _ _ _ (T273.setTop (mkF m 14 #[.val (.ref ba), .val (.int (0 : Int32)), .val (.int (3 : Int32)), .val (.ref ta), .val (.int (0 : Int32))] []))
  refine Go.by (fun t9_ q9_ => XS.aloadN W276.here W276.hx rfl (hb hby dc_jdk_52_method_14_code_14) rfl rfl (XS.iload W276.here W276.hx rfl (hb hby dc_jdk_52_method_14_code_15) rfl (XS.aloadN W276.here W276.hx rfl (hb hby dc_jdk_52_method_14_code_17) rfl rfl (XS.iloadN W276.here W276.hx rfl (hb hby dc_jdk_52_method_14_code_18) rfl q9_)))) ?_
  show Go p e below s Z [] _ _ _ (T273.setTop (mkF m 19 #[.val (.ref ba), .val (.int (0 : Int32)), .val (.int (3 : Int32)), .val (.ref ta), .val (.int (0 : Int32))] [(.int (0 : Int32)), (.ref ba), (.int (0 : Int32)), (.ref ta)]))
  refine W276.cald (A_b.ext X1) ⟨by decide, by decide⟩ (v := (.int c0)) rfl (hb hby dc_jdk_52_method_14_code_19) ?_
  show Go p e below s Z [] _ _ _ (T273.setTop (mkF m 20 #[.val (.ref ba), .val (.int (0 : Int32)), .val (.int (3 : Int32)), .val (.ref ta), .val (.int (0 : Int32))] [(.int c0), (.int (0 : Int32)), (.ref ta)]))
  refine W276.callS (y := (⟨"java/lang/StringUTF16", "putChar", "([BII)V"⟩ : MethodName)) (wd89 hw) (wd90 hw) (wd17 hw) (wd91 hw) (by decide) (c_put3_0 l Z a0 hw hEL h275 W276.old ta k_ta (.int (0 : Int32)) (.int (0 : Int32)) (.int (0 : Int32)) (.int (0 : Int32)) (.int (0 : Int32)) (.int (0 : Int32)) c0 SAD SHI SLO A_ta z_ta) (allS (List.mem_of_getElem? (i := 0) rfl) all0) (by decide) (by decide) (k' := 1) (n' := 6) rfl rfl (by decide) (by decide) (by rw [hml]; rfl) (argsL := [(.ref ta), (.int (0 : Int32)), (.int c0)]) (rest := []) (lenOf pd_2 rfl) rfl rfl (Wt := 0) (Nat.le_of_eq rfl) (hb hby dc_jdk_52_method_14_code_20) ?_
  intro v_ T277 h279 W278 hq_
  obtain ⟨rfl, K0, A0_ta⟩ := hq_
  show Go p e below s Z [] _ _ _ (T277.setTop (mkF m 23 #[.val (.ref ba), .val (.int (0 : Int32)), .val (.int (3 : Int32)), .val (.ref ta), .val (.int (0 : Int32))] []))
  refine Go.by (fun t9_ q9_ => XS.iinc W278.here W278.hx rfl (hb hby dc_jdk_52_method_14_code_23) rfl (l' := #[.val (.ref ba), .val (.int ((0 : Int32) + (1 : Int32))), .val (.int (3 : Int32)), .val (.ref ta), .val (.int (0 : Int32))]) rfl q9_) ?_
  show Go p e below s Z [] _ _ _ (T277.setTop (mkF m 26 #[.val (.ref ba), .val (.int ((0 : Int32) + (1 : Int32))), .val (.int (3 : Int32)), .val (.ref ta), .val (.int (0 : Int32))] []))
  show Go p e below s Z [] _ _ _ (T277.setTop (mkF m 26 #[.val (.ref ba), .val (.int (1 : Int32)), .val (.int (3 : Int32)), .val (.ref ta), .val (.int (0 : Int32))] []))
  refine Go.by (fun t9_ q9_ => XS.iinc W278.here W278.hx rfl (hb hby dc_jdk_52_method_14_code_26) rfl (l' := #[.val (.ref ba), .val (.int (1 : Int32)), .val (.int (3 : Int32)), .val (.ref ta), .val (.int ((0 : Int32) + (1 : Int32)))]) rfl q9_) ?_
  show Go p e below s Z [] _ _ _ (T277.setTop (mkF m 29 #[.val (.ref ba), .val (.int (1 : Int32)), .val (.int (3 : Int32)), .val (.ref ta), .val (.int ((0 : Int32) + (1 : Int32)))] []))
  show Go p e below s Z [] _ _ _ (T277.setTop (mkF m 29 #[.val (.ref ba), .val (.int (1 : Int32)), .val (.int (3 : Int32)), .val (.ref ta), .val (.int (1 : Int32))] []))
  refine Go.by (fun t9_ q9_ => XS.goto W278.here W278.hx rfl (pc0 := 29) (pc' := 8) rfl (hb hby dc_jdk_52_method_14_code_29) (by decide) (by decide) (XS.iload W278.here W278.hx rfl (hb hby dc_jdk_52_method_14_code_8) rfl (XS.iloadN W278.here W278.hx rfl (hb hby dc_jdk_52_method_14_code_10) rfl q9_))) ?_
  show Go p e below s Z [] _ _ _ (T277.setTop (mkF m 11 #[.val (.ref ba), .val (.int (1 : Int32)), .val (.int (3 : Int32)), .val (.ref ta), .val (.int (1 : Int32))] [(.int (3 : Int32)), (.int (1 : Int32))]))
  refine Go.by (fun t9_ q9_ => XS.icmpNo W278.here W278.hx rfl (hb hby dc_jdk_52_method_14_code_11) rfl (tlt (by decide)).2.1 q9_) ?_
  show Go p e below s Z [] _ _ _ (T277.setTop (mkF m 14 #[.val (.ref ba), .val (.int (1 : Int32)), .val (.int (3 : Int32)), .val (.ref ta), .val (.int (1 : Int32))] []))
  refine Go.by (fun t9_ q9_ => XS.aloadN W278.here W278.hx rfl (hb hby dc_jdk_52_method_14_code_14) rfl rfl (XS.iload W278.here W278.hx rfl (hb hby dc_jdk_52_method_14_code_15) rfl (XS.aloadN W278.here W278.hx rfl (hb hby dc_jdk_52_method_14_code_17) rfl rfl (XS.iloadN W278.here W278.hx rfl (hb hby dc_jdk_52_method_14_code_18) rfl q9_)))) ?_
  show Go p e below s Z [] _ _ _ (T277.setTop (mkF m 19 #[.val (.ref ba), .val (.int (1 : Int32)), .val (.int (3 : Int32)), .val (.ref ta), .val (.int (1 : Int32))] [(.int (1 : Int32)), (.ref ba), (.int (1 : Int32)), (.ref ta)]))
  have X280 : Ext h0 h279 := (Ext.keep' X1 K0 (allS (Nat.le_of_eq g_ta) all0))
  refine W278.cald (A_b.ext X280) ⟨by decide, by decide⟩ (v := (.int c1)) rfl (hb hby dc_jdk_52_method_14_code_19) ?_
  show Go p e below s Z [] _ _ _ (T277.setTop (mkF m 20 #[.val (.ref ba), .val (.int (1 : Int32)), .val (.int (3 : Int32)), .val (.ref ta), .val (.int (1 : Int32))] [(.int c1), (.int (1 : Int32)), (.ref ta)]))
  refine W278.callS (y := (⟨"java/lang/StringUTF16", "putChar", "([BII)V"⟩ : MethodName)) (wd89 hw) (wd90 hw) (wd17 hw) (wd91 hw) (by decide) (c_put3_1 l Z a0 hw hEL h279 W278.old ta k_ta (.int (StrChars.lo8 c0)) (.int (StrChars.hi8 c0)) (.int (0 : Int32)) (.int (0 : Int32)) (.int (0 : Int32)) (.int (0 : Int32)) c1 SAD SHI SLO A0_ta z_ta) (allS (List.mem_of_getElem? (i := 0) rfl) all0) (by decide) (by decide) (k' := 1) (n' := 6) rfl rfl (by decide) (by decide) (by rw [hml]; rfl) (argsL := [(.ref ta), (.int (1 : Int32)), (.int c1)]) (rest := []) (lenOf pd_2 rfl) rfl rfl (Wt := 0) (Nat.le_of_eq rfl) (hb hby dc_jdk_52_method_14_code_20) ?_
  intro v_ T281 h283 W282 hq_
  obtain ⟨rfl, K1, A1_ta⟩ := hq_
  show Go p e below s Z [] _ _ _ (T281.setTop (mkF m 23 #[.val (.ref ba), .val (.int (1 : Int32)), .val (.int (3 : Int32)), .val (.ref ta), .val (.int (1 : Int32))] []))
  refine Go.by (fun t9_ q9_ => XS.iinc W282.here W282.hx rfl (hb hby dc_jdk_52_method_14_code_23) rfl (l' := #[.val (.ref ba), .val (.int ((1 : Int32) + (1 : Int32))), .val (.int (3 : Int32)), .val (.ref ta), .val (.int (1 : Int32))]) rfl q9_) ?_
  show Go p e below s Z [] _ _ _ (T281.setTop (mkF m 26 #[.val (.ref ba), .val (.int ((1 : Int32) + (1 : Int32))), .val (.int (3 : Int32)), .val (.ref ta), .val (.int (1 : Int32))] []))
  show Go p e below s Z [] _ _ _ (T281.setTop (mkF m 26 #[.val (.ref ba), .val (.int (2 : Int32)), .val (.int (3 : Int32)), .val (.ref ta), .val (.int (1 : Int32))] []))
  refine Go.by (fun t9_ q9_ => XS.iinc W282.here W282.hx rfl (hb hby dc_jdk_52_method_14_code_26) rfl (l' := #[.val (.ref ba), .val (.int (2 : Int32)), .val (.int (3 : Int32)), .val (.ref ta), .val (.int ((1 : Int32) + (1 : Int32)))]) rfl q9_) ?_
  show Go p e below s Z [] _ _ _ (T281.setTop (mkF m 29 #[.val (.ref ba), .val (.int (2 : Int32)), .val (.int (3 : Int32)), .val (.ref ta), .val (.int ((1 : Int32) + (1 : Int32)))] []))
  show Go p e below s Z [] _ _ _ (T281.setTop (mkF m 29 #[.val (.ref ba), .val (.int (2 : Int32)), .val (.int (3 : Int32)), .val (.ref ta), .val (.int (2 : Int32))] []))
  refine Go.by (fun t9_ q9_ => XS.goto W282.here W282.hx rfl (pc0 := 29) (pc' := 8) rfl (hb hby dc_jdk_52_method_14_code_29) (by decide) (by decide) (XS.iload W282.here W282.hx rfl (hb hby dc_jdk_52_method_14_code_8) rfl (XS.iloadN W282.here W282.hx rfl (hb hby dc_jdk_52_method_14_code_10) rfl q9_))) ?_
  show Go p e below s Z [] _ _ _ (T281.setTop (mkF m 11 #[.val (.ref ba), .val (.int (2 : Int32)), .val (.int (3 : Int32)), .val (.ref ta), .val (.int (2 : Int32))] [(.int (3 : Int32)), (.int (2 : Int32))]))
  refine Go.by (fun t9_ q9_ => XS.icmpNo W282.here W282.hx rfl (hb hby dc_jdk_52_method_14_code_11) rfl (tlt (by decide)).2.1 q9_) ?_
  show Go p e below s Z [] _ _ _ (T281.setTop (mkF m 14 #[.val (.ref ba), .val (.int (2 : Int32)), .val (.int (3 : Int32)), .val (.ref ta), .val (.int (2 : Int32))] []))
  refine Go.by (fun t9_ q9_ => XS.aloadN W282.here W282.hx rfl (hb hby dc_jdk_52_method_14_code_14) rfl rfl (XS.iload W282.here W282.hx rfl (hb hby dc_jdk_52_method_14_code_15) rfl (XS.aloadN W282.here W282.hx rfl (hb hby dc_jdk_52_method_14_code_17) rfl rfl (XS.iloadN W282.here W282.hx rfl (hb hby dc_jdk_52_method_14_code_18) rfl q9_)))) ?_
  show Go p e below s Z [] _ _ _ (T281.setTop (mkF m 19 #[.val (.ref ba), .val (.int (2 : Int32)), .val (.int (3 : Int32)), .val (.ref ta), .val (.int (2 : Int32))] [(.int (2 : Int32)), (.ref ba), (.int (2 : Int32)), (.ref ta)]))
  have X284 : Ext h0 h283 := (Ext.keep' X280 K1 (allS (Nat.le_of_eq g_ta) all0))
  refine W282.cald (A_b.ext X284) ⟨by decide, by decide⟩ (v := (.int c2)) rfl (hb hby dc_jdk_52_method_14_code_19) ?_
  show Go p e below s Z [] _ _ _ (T281.setTop (mkF m 20 #[.val (.ref ba), .val (.int (2 : Int32)), .val (.int (3 : Int32)), .val (.ref ta), .val (.int (2 : Int32))] [(.int c2), (.int (2 : Int32)), (.ref ta)]))
  refine W282.callS (y := (⟨"java/lang/StringUTF16", "putChar", "([BII)V"⟩ : MethodName)) (wd89 hw) (wd90 hw) (wd17 hw) (wd91 hw) (by decide) (c_put3_2 l Z a0 hw hEL h283 W282.old ta k_ta (.int (StrChars.lo8 c0)) (.int (StrChars.hi8 c0)) (.int (StrChars.lo8 c1)) (.int (StrChars.hi8 c1)) (.int (0 : Int32)) (.int (0 : Int32)) c2 SAD SHI SLO A1_ta z_ta) (allS (List.mem_of_getElem? (i := 0) rfl) all0) (by decide) (by decide) (k' := 1) (n' := 6) rfl rfl (by decide) (by decide) (by rw [hml]; rfl) (argsL := [(.ref ta), (.int (2 : Int32)), (.int c2)]) (rest := []) (lenOf pd_2 rfl) rfl rfl (Wt := 0) (Nat.le_of_eq rfl) (hb hby dc_jdk_52_method_14_code_20) ?_
  intro v_ T285 h287 W286 hq_
  obtain ⟨rfl, K2, A2_ta⟩ := hq_
  show Go p e below s Z [] _ _ _ (T285.setTop (mkF m 23 #[.val (.ref ba), .val (.int (2 : Int32)), .val (.int (3 : Int32)), .val (.ref ta), .val (.int (2 : Int32))] []))
  refine Go.by (fun t9_ q9_ => XS.iinc W286.here W286.hx rfl (hb hby dc_jdk_52_method_14_code_23) rfl (l' := #[.val (.ref ba), .val (.int ((2 : Int32) + (1 : Int32))), .val (.int (3 : Int32)), .val (.ref ta), .val (.int (2 : Int32))]) rfl q9_) ?_
  show Go p e below s Z [] _ _ _ (T285.setTop (mkF m 26 #[.val (.ref ba), .val (.int ((2 : Int32) + (1 : Int32))), .val (.int (3 : Int32)), .val (.ref ta), .val (.int (2 : Int32))] []))
  show Go p e below s Z [] _ _ _ (T285.setTop (mkF m 26 #[.val (.ref ba), .val (.int (3 : Int32)), .val (.int (3 : Int32)), .val (.ref ta), .val (.int (2 : Int32))] []))
  refine Go.by (fun t9_ q9_ => XS.iinc W286.here W286.hx rfl (hb hby dc_jdk_52_method_14_code_26) rfl (l' := #[.val (.ref ba), .val (.int (3 : Int32)), .val (.int (3 : Int32)), .val (.ref ta), .val (.int ((2 : Int32) + (1 : Int32)))]) rfl q9_) ?_
  show Go p e below s Z [] _ _ _ (T285.setTop (mkF m 29 #[.val (.ref ba), .val (.int (3 : Int32)), .val (.int (3 : Int32)), .val (.ref ta), .val (.int ((2 : Int32) + (1 : Int32)))] []))
  show Go p e below s Z [] _ _ _ (T285.setTop (mkF m 29 #[.val (.ref ba), .val (.int (3 : Int32)), .val (.int (3 : Int32)), .val (.ref ta), .val (.int (3 : Int32))] []))
  refine Go.by (fun t9_ q9_ => XS.goto W286.here W286.hx rfl (pc0 := 29) (pc' := 8) rfl (hb hby dc_jdk_52_method_14_code_29) (by decide) (by decide) (XS.iload W286.here W286.hx rfl (hb hby dc_jdk_52_method_14_code_8) rfl (XS.iloadN W286.here W286.hx rfl (hb hby dc_jdk_52_method_14_code_10) rfl q9_))) ?_
  show Go p e below s Z [] _ _ _ (T285.setTop (mkF m 11 #[.val (.ref ba), .val (.int (3 : Int32)), .val (.int (3 : Int32)), .val (.ref ta), .val (.int (3 : Int32))] [(.int (3 : Int32)), (.int (3 : Int32))]))
  refine Go.by (fun t9_ q9_ => XS.icmpYes W286.here W286.hx rfl (pc0 := 11) (pc' := 32) rfl (hb hby dc_jdk_52_method_14_code_11) rfl (flt (by decide)).2.1 (by decide) (by decide) q9_) ?_
  show Go p e below s Z [] _ _ _ (T285.setTop (mkF m 32 #[.val (.ref ba), .val (.int (3 : Int32)), .val (.int (3 : Int32)), .val (.ref ta), .val (.int (3 : Int32))] []))
  refine Go.by (fun t9_ q9_ => XS.aloadN W286.here W286.hx rfl (hb hby dc_jdk_52_method_14_code_32) rfl rfl q9_) ?_
  show Go p e below s Z [] _ _ _ (T285.setTop (mkF m 33 #[.val (.ref ba), .val (.int (3 : Int32)), .val (.int (3 : Int32)), .val (.ref ta), .val (.int (3 : Int32))] [(.ref ta)]))
  have X288 : Ext h0 h287 := (Ext.keep' X284 K2 (allS (Nat.le_of_eq g_ta) all0))
  exact W286.retA (by decide) (by decide) hret rfl rfl (hb hby dc_jdk_52_method_14_code_33) ⟨ta, k_ta, rfl, X288, (((E_ta.keep K0).keep K1).keep K2), A2_ta⟩
set_option maxRecDepth 65536 in
set_option maxHeartbeats 40000000 in
theorem c_cm5_3 (l : Launch) (Z : State) (a0 : Array Value) (hw : ∀ d ∈ tables_1, d.before a0 Z = true) (hEL : EW Z a0 []) (h0 : Heap) (hE0 : Ext Z.heap h0) (ba da : Addr) (kb k_da : ClassId) (c0 c1 c2 : Int32) (A_b : Arv Z h0 ba kb .char (3 : Int32) [(.int c0), (.int c1), (.int c2)] (.int (0 : Int32))) (A_d : Arv Z h0 da k_da .byte (3 : Int32) [(.int (0 : Int32)), (.int (0 : Int32)), (.int (0 : Int32))] (.int (0 : Int32))) (z_da : Z.heap.size ≤ da) (nbd : ba ≠ da) (hbig : (255 : Int32) < c0 ∨ (255 : Int32) < c1 ∨ (255 : Int32) < c2) :
    Con l Z [] [da] (⟨"java/lang/StringUTF16", "compress", "([CI[BII)I"⟩ : MethodName) jdk_52_method_21_code 7 (some .int) [] ({ frames := 0, cells := 0, slots := 0, locals := 0 } : Room) #[(.ref ba), (.int (0 : Int32)), (.ref da), (.int (0 : Int32)), (.int (3 : Int32))] h0 (fun v h' => ∃ kk : Int32, v = some (.int kk) ∧ Keep h0 h' [da] ∧ (kk = (0 : Int32) ∧ (255 : Int32) < c0 ∨ kk = (1 : Int32) ∧ (255 : Int32) < c1 ∨ kk = (2 : Int32) ∧ (255 : Int32) < c2)) := by
  refine Con.mk (plainFor_of_name pn_0) hEL hE0 (allS A_d.lt all0) ?_
  intro p e s m below meth c T0 hby hml hret hnm W0
  rw [(show entryFrame m #[(.ref ba), (.int (0 : Int32)), (.ref da), (.int (0 : Int32)), (.int (3 : Int32))] 7 = mkF m 0 #[.val (.ref ba), .val (.int (0 : Int32)), .val (.ref da), .val (.int (0 : Int32)), .val (.int (3 : Int32)), .unset, .unset] [] from by first | (simp [entryFrame, mkF, argsToLocals, Value.category]; done) | rfl)]
  refine Go.by (fun t9_ q9_ => XS.iconst W0.here W0.hx rfl (hb hby dc_jdk_52_method_21_code_0) (XS.istore W0.here W0.hx rfl (hb hby dc_jdk_52_method_21_code_1) rfl (l' := #[.val (.ref ba), .val (.int (0 : Int32)), .val (.ref da), .val (.int (0 : Int32)), .val (.int (3 : Int32)), .val (.int (0 : Int32)), .unset]) rfl (XS.iload W0.here W0.hx rfl (hb hby dc_jdk_52_method_21_code_3) rfl (XS.iload W0.here W0.hx rfl (hb hby dc_jdk_52_method_21_code_5) rfl q9_)))) ?_
  show Go p e below s Z [] _ _ _ (T0.setTop (mkF m 7 #[.val (.ref ba), .val (.int (0 : Int32)), .val (.ref da), .val (.int (0 : Int32)), .val (.int (3 : Int32)), .val (.int (0 : Int32)), .unset] [(.int (3 : Int32)), (.int (0 : Int32))]))
  refine Go.by (fun t9_ q9_ => XS.icmpNo W0.here W0.hx rfl (hb hby dc_jdk_52_method_21_code_7) rfl (tlt (by decide)).2.1 q9_) ?_
  show Go p e below s Z [] _ _ _ (T0.setTop (mkF m 10 #[.val (.ref ba), .val (.int (0 : Int32)), .val (.ref da), .val (.int (0 : Int32)), .val (.int (3 : Int32)), .val (.int (0 : Int32)), .unset] []))
  refine Go.by (fun t9_ q9_ => XS.aloadN W0.here W0.hx rfl (hb hby dc_jdk_52_method_21_code_10) rfl rfl (XS.iloadN W0.here W0.hx rfl (hb hby dc_jdk_52_method_21_code_11) rfl q9_)) ?_
  show Go p e below s Z [] _ _ _ (T0.setTop (mkF m 12 #[.val (.ref ba), .val (.int (0 : Int32)), .val (.ref da), .val (.int (0 : Int32)), .val (.int (3 : Int32)), .val (.int (0 : Int32)), .unset] [(.int (0 : Int32)), (.ref ba)]))
  refine W0.cald A_b ⟨by decide, by decide⟩ (v := (.int c0)) rfl (hb hby dc_jdk_52_method_21_code_12) ?_
  show Go p e below s Z [] _ _ _ (T0.setTop (mkF m 13 #[.val (.ref ba), .val (.int (0 : Int32)), .val (.ref da), .val (.int (0 : Int32)), .val (.int (3 : Int32)), .val (.int (0 : Int32)), .unset] [(.int c0)]))
  refine Go.by (fun t9_ q9_ => XS.istore W0.here W0.hx rfl (hb hby dc_jdk_52_method_21_code_13) rfl (l' := #[.val (.ref ba), .val (.int (0 : Int32)), .val (.ref da), .val (.int (0 : Int32)), .val (.int (3 : Int32)), .val (.int (0 : Int32)), .val (.int c0)]) rfl (XS.iload W0.here W0.hx rfl (hb hby dc_jdk_52_method_21_code_15) rfl (XS.sipush W0.here W0.hx rfl (hb hby dc_jdk_52_method_21_code_17) q9_))) ?_
  show Go p e below s Z [] _ _ _ (T0.setTop (mkF m 20 #[.val (.ref ba), .val (.int (0 : Int32)), .val (.ref da), .val (.int (0 : Int32)), .val (.int (3 : Int32)), .val (.int (0 : Int32)), .val (.int c0)] [(.int (255 : Int32)), (.int c0)]))
  by_cases e0 : (255 : Int32) < c0
  · refine Go.by (fun t9_ q9_ => XS.icmpNo W0.here W0.hx rfl (hb hby dc_jdk_52_method_21_code_20) rfl (tlt e0).2.2.2 q9_) ?_
    show Go p e below s Z [] _ _ _ (T0.setTop (mkF m 23 #[.val (.ref ba), .val (.int (0 : Int32)), .val (.ref da), .val (.int (0 : Int32)), .val (.int (3 : Int32)), .val (.int (0 : Int32)), .val (.int c0)] []))
    refine Go.by (fun t9_ q9_ => XS.iload W0.here W0.hx rfl (hb hby dc_jdk_52_method_21_code_23) rfl q9_) ?_
    show Go p e below s Z [] _ _ _ (T0.setTop (mkF m 25 #[.val (.ref ba), .val (.int (0 : Int32)), .val (.ref da), .val (.int (0 : Int32)), .val (.int (3 : Int32)), .val (.int (0 : Int32)), .val (.int c0)] [(.int (0 : Int32))]))
    exact W0.retI (by decide) (by decide) hret (hb hby dc_jdk_52_method_21_code_25) ⟨(0 : Int32), rfl, (Keep.refl h0 [da]), Or.inl ⟨rfl, e0⟩⟩
  · refine Go.by (fun t9_ q9_ => XS.icmpYes W0.here W0.hx rfl (pc0 := 20) (pc' := 26) rfl (hb hby dc_jdk_52_method_21_code_20) rfl (flt e0).2.2.2 (by decide) (by decide) q9_) ?_
    show Go p e below s Z [] _ _ _ (T0.setTop (mkF m 26 #[.val (.ref ba), .val (.int (0 : Int32)), .val (.ref da), .val (.int (0 : Int32)), .val (.int (3 : Int32)), .val (.int (0 : Int32)), .val (.int c0)] []))
    refine Go.by (fun t9_ q9_ => XS.aloadN W0.here W0.hx rfl (hb hby dc_jdk_52_method_21_code_26) rfl rfl (XS.iloadN W0.here W0.hx rfl (hb hby dc_jdk_52_method_21_code_27) rfl (XS.iload W0.here W0.hx rfl (hb hby dc_jdk_52_method_21_code_28) rfl (XS.i2b W0.here W0.hx rfl (hb hby dc_jdk_52_method_21_code_30) rfl q9_)))) ?_
    show Go p e below s Z [] _ _ _ (T0.setTop (mkF m 31 #[.val (.ref ba), .val (.int (0 : Int32)), .val (.ref da), .val (.int (0 : Int32)), .val (.int (3 : Int32)), .val (.int (0 : Int32)), .val (.int c0)] [(.int (c0.toInt8.toInt32)), (.int (0 : Int32)), (.ref da)]))
    refine W0.bast A_d ⟨by decide, by decide⟩ (i := 0) rfl (by simp) (v' := (StrChars.lo8 c0)) (by simp [nar, StrChars.lo8, lo8_lo8]) z_da (List.mem_of_getElem? (i := 0) rfl) (hb hby dc_jdk_52_method_21_code_31) ?_
    intro T289 h290 W291 Wr292 V293_da'
    have V293_da : Arv Z h290 da k_da .byte (3 : Int32) [(.int (StrChars.lo8 c0)), (.int (0 : Int32)), (.int (0 : Int32))] (.int (0 : Int32)) := V293_da'
    show Go p e below s Z [] _ _ _ (T289.setTop (mkF m 32 #[.val (.ref ba), .val (.int (0 : Int32)), .val (.ref da), .val (.int (0 : Int32)), .val (.int (3 : Int32)), .val (.int (0 : Int32)), .val (.int c0)] []))
    refine Go.by (fun t9_ q9_ => XS.iinc W291.here W291.hx rfl (hb hby dc_jdk_52_method_21_code_32) rfl (l' := #[.val (.ref ba), .val (.int ((0 : Int32) + (1 : Int32))), .val (.ref da), .val (.int (0 : Int32)), .val (.int (3 : Int32)), .val (.int (0 : Int32)), .val (.int c0)]) rfl q9_) ?_
    show Go p e below s Z [] _ _ _ (T289.setTop (mkF m 35 #[.val (.ref ba), .val (.int ((0 : Int32) + (1 : Int32))), .val (.ref da), .val (.int (0 : Int32)), .val (.int (3 : Int32)), .val (.int (0 : Int32)), .val (.int c0)] []))
    show Go p e below s Z [] _ _ _ (T289.setTop (mkF m 35 #[.val (.ref ba), .val (.int (1 : Int32)), .val (.ref da), .val (.int (0 : Int32)), .val (.int (3 : Int32)), .val (.int (0 : Int32)), .val (.int c0)] []))
    refine Go.by (fun t9_ q9_ => XS.iinc W291.here W291.hx rfl (hb hby dc_jdk_52_method_21_code_35) rfl (l' := #[.val (.ref ba), .val (.int (1 : Int32)), .val (.ref da), .val (.int ((0 : Int32) + (1 : Int32))), .val (.int (3 : Int32)), .val (.int (0 : Int32)), .val (.int c0)]) rfl q9_) ?_
    show Go p e below s Z [] _ _ _ (T289.setTop (mkF m 38 #[.val (.ref ba), .val (.int (1 : Int32)), .val (.ref da), .val (.int ((0 : Int32) + (1 : Int32))), .val (.int (3 : Int32)), .val (.int (0 : Int32)), .val (.int c0)] []))
    show Go p e below s Z [] _ _ _ (T289.setTop (mkF m 38 #[.val (.ref ba), .val (.int (1 : Int32)), .val (.ref da), .val (.int (1 : Int32)), .val (.int (3 : Int32)), .val (.int (0 : Int32)), .val (.int c0)] []))
    refine Go.by (fun t9_ q9_ => XS.iinc W291.here W291.hx rfl (hb hby dc_jdk_52_method_21_code_38) rfl (l' := #[.val (.ref ba), .val (.int (1 : Int32)), .val (.ref da), .val (.int (1 : Int32)), .val (.int (3 : Int32)), .val (.int ((0 : Int32) + (1 : Int32))), .val (.int c0)]) rfl q9_) ?_
    show Go p e below s Z [] _ _ _ (T289.setTop (mkF m 41 #[.val (.ref ba), .val (.int (1 : Int32)), .val (.ref da), .val (.int (1 : Int32)), .val (.int (3 : Int32)), .val (.int ((0 : Int32) + (1 : Int32))), .val (.int c0)] []))
    show Go p e below s Z [] _ _ _ (T289.setTop (mkF m 41 #[.val (.ref ba), .val (.int (1 : Int32)), .val (.ref da), .val (.int (1 : Int32)), .val (.int (3 : Int32)), .val (.int (1 : Int32)), .val (.int c0)] []))
    refine Go.by (fun t9_ q9_ => XS.goto W291.here W291.hx rfl (pc0 := 41) (pc' := 3) rfl (hb hby dc_jdk_52_method_21_code_41) (by decide) (by decide) (XS.iload W291.here W291.hx rfl (hb hby dc_jdk_52_method_21_code_3) rfl (XS.iload W291.here W291.hx rfl (hb hby dc_jdk_52_method_21_code_5) rfl q9_))) ?_
    show Go p e below s Z [] _ _ _ (T289.setTop (mkF m 7 #[.val (.ref ba), .val (.int (1 : Int32)), .val (.ref da), .val (.int (1 : Int32)), .val (.int (3 : Int32)), .val (.int (1 : Int32)), .val (.int c0)] [(.int (3 : Int32)), (.int (1 : Int32))]))
    refine Go.by (fun t9_ q9_ => XS.icmpNo W291.here W291.hx rfl (hb hby dc_jdk_52_method_21_code_7) rfl (tlt (by decide)).2.1 q9_) ?_
    show Go p e below s Z [] _ _ _ (T289.setTop (mkF m 10 #[.val (.ref ba), .val (.int (1 : Int32)), .val (.ref da), .val (.int (1 : Int32)), .val (.int (3 : Int32)), .val (.int (1 : Int32)), .val (.int c0)] []))
    refine Go.by (fun t9_ q9_ => XS.aloadN W291.here W291.hx rfl (hb hby dc_jdk_52_method_21_code_10) rfl rfl (XS.iloadN W291.here W291.hx rfl (hb hby dc_jdk_52_method_21_code_11) rfl q9_)) ?_
    show Go p e below s Z [] _ _ _ (T289.setTop (mkF m 12 #[.val (.ref ba), .val (.int (1 : Int32)), .val (.ref da), .val (.int (1 : Int32)), .val (.int (3 : Int32)), .val (.int (1 : Int32)), .val (.int c0)] [(.int (1 : Int32)), (.ref ba)]))
    refine W291.cald (A_b.other Wr292 nbd) ⟨by decide, by decide⟩ (v := (.int c1)) rfl (hb hby dc_jdk_52_method_21_code_12) ?_
    show Go p e below s Z [] _ _ _ (T289.setTop (mkF m 13 #[.val (.ref ba), .val (.int (1 : Int32)), .val (.ref da), .val (.int (1 : Int32)), .val (.int (3 : Int32)), .val (.int (1 : Int32)), .val (.int c0)] [(.int c1)]))
    refine Go.by (fun t9_ q9_ => XS.istore W291.here W291.hx rfl (hb hby dc_jdk_52_method_21_code_13) rfl (l' := #[.val (.ref ba), .val (.int (1 : Int32)), .val (.ref da), .val (.int (1 : Int32)), .val (.int (3 : Int32)), .val (.int (1 : Int32)), .val (.int c1)]) rfl (XS.iload W291.here W291.hx rfl (hb hby dc_jdk_52_method_21_code_15) rfl (XS.sipush W291.here W291.hx rfl (hb hby dc_jdk_52_method_21_code_17) q9_))) ?_
    show Go p e below s Z [] _ _ _ (T289.setTop (mkF m 20 #[.val (.ref ba), .val (.int (1 : Int32)), .val (.ref da), .val (.int (1 : Int32)), .val (.int (3 : Int32)), .val (.int (1 : Int32)), .val (.int c1)] [(.int (255 : Int32)), (.int c1)]))
    by_cases e1 : (255 : Int32) < c1
    · refine Go.by (fun t9_ q9_ => XS.icmpNo W291.here W291.hx rfl (hb hby dc_jdk_52_method_21_code_20) rfl (tlt e1).2.2.2 q9_) ?_
      show Go p e below s Z [] _ _ _ (T289.setTop (mkF m 23 #[.val (.ref ba), .val (.int (1 : Int32)), .val (.ref da), .val (.int (1 : Int32)), .val (.int (3 : Int32)), .val (.int (1 : Int32)), .val (.int c1)] []))
      refine Go.by (fun t9_ q9_ => XS.iload W291.here W291.hx rfl (hb hby dc_jdk_52_method_21_code_23) rfl q9_) ?_
      show Go p e below s Z [] _ _ _ (T289.setTop (mkF m 25 #[.val (.ref ba), .val (.int (1 : Int32)), .val (.ref da), .val (.int (1 : Int32)), .val (.int (3 : Int32)), .val (.int (1 : Int32)), .val (.int c1)] [(.int (1 : Int32))]))
      exact W291.retI (by decide) (by decide) hret (hb hby dc_jdk_52_method_21_code_25) ⟨(1 : Int32), rfl, ((Keep.refl h0 [da]).wr Wr292 (Or.inl (List.mem_of_getElem? (i := 0) rfl))), Or.inr (Or.inl ⟨rfl, e1⟩)⟩
    · refine Go.by (fun t9_ q9_ => XS.icmpYes W291.here W291.hx rfl (pc0 := 20) (pc' := 26) rfl (hb hby dc_jdk_52_method_21_code_20) rfl (flt e1).2.2.2 (by decide) (by decide) q9_) ?_
      show Go p e below s Z [] _ _ _ (T289.setTop (mkF m 26 #[.val (.ref ba), .val (.int (1 : Int32)), .val (.ref da), .val (.int (1 : Int32)), .val (.int (3 : Int32)), .val (.int (1 : Int32)), .val (.int c1)] []))
      refine Go.by (fun t9_ q9_ => XS.aloadN W291.here W291.hx rfl (hb hby dc_jdk_52_method_21_code_26) rfl rfl (XS.iloadN W291.here W291.hx rfl (hb hby dc_jdk_52_method_21_code_27) rfl (XS.iload W291.here W291.hx rfl (hb hby dc_jdk_52_method_21_code_28) rfl (XS.i2b W291.here W291.hx rfl (hb hby dc_jdk_52_method_21_code_30) rfl q9_)))) ?_
      show Go p e below s Z [] _ _ _ (T289.setTop (mkF m 31 #[.val (.ref ba), .val (.int (1 : Int32)), .val (.ref da), .val (.int (1 : Int32)), .val (.int (3 : Int32)), .val (.int (1 : Int32)), .val (.int c1)] [(.int (c1.toInt8.toInt32)), (.int (1 : Int32)), (.ref da)]))
      refine W291.bast V293_da ⟨by decide, by decide⟩ (i := 1) rfl (by simp) (v' := (StrChars.lo8 c1)) (by simp [nar, StrChars.lo8, lo8_lo8]) z_da (List.mem_of_getElem? (i := 0) rfl) (hb hby dc_jdk_52_method_21_code_31) ?_
      intro T294 h295 W296 Wr297 V298_da'
      have V298_da : Arv Z h295 da k_da .byte (3 : Int32) [(.int (StrChars.lo8 c0)), (.int (StrChars.lo8 c1)), (.int (0 : Int32))] (.int (0 : Int32)) := V298_da'
      show Go p e below s Z [] _ _ _ (T294.setTop (mkF m 32 #[.val (.ref ba), .val (.int (1 : Int32)), .val (.ref da), .val (.int (1 : Int32)), .val (.int (3 : Int32)), .val (.int (1 : Int32)), .val (.int c1)] []))
      refine Go.by (fun t9_ q9_ => XS.iinc W296.here W296.hx rfl (hb hby dc_jdk_52_method_21_code_32) rfl (l' := #[.val (.ref ba), .val (.int ((1 : Int32) + (1 : Int32))), .val (.ref da), .val (.int (1 : Int32)), .val (.int (3 : Int32)), .val (.int (1 : Int32)), .val (.int c1)]) rfl q9_) ?_
      show Go p e below s Z [] _ _ _ (T294.setTop (mkF m 35 #[.val (.ref ba), .val (.int ((1 : Int32) + (1 : Int32))), .val (.ref da), .val (.int (1 : Int32)), .val (.int (3 : Int32)), .val (.int (1 : Int32)), .val (.int c1)] []))
      show Go p e below s Z [] _ _ _ (T294.setTop (mkF m 35 #[.val (.ref ba), .val (.int (2 : Int32)), .val (.ref da), .val (.int (1 : Int32)), .val (.int (3 : Int32)), .val (.int (1 : Int32)), .val (.int c1)] []))
      refine Go.by (fun t9_ q9_ => XS.iinc W296.here W296.hx rfl (hb hby dc_jdk_52_method_21_code_35) rfl (l' := #[.val (.ref ba), .val (.int (2 : Int32)), .val (.ref da), .val (.int ((1 : Int32) + (1 : Int32))), .val (.int (3 : Int32)), .val (.int (1 : Int32)), .val (.int c1)]) rfl q9_) ?_
      show Go p e below s Z [] _ _ _ (T294.setTop (mkF m 38 #[.val (.ref ba), .val (.int (2 : Int32)), .val (.ref da), .val (.int ((1 : Int32) + (1 : Int32))), .val (.int (3 : Int32)), .val (.int (1 : Int32)), .val (.int c1)] []))
      show Go p e below s Z [] _ _ _ (T294.setTop (mkF m 38 #[.val (.ref ba), .val (.int (2 : Int32)), .val (.ref da), .val (.int (2 : Int32)), .val (.int (3 : Int32)), .val (.int (1 : Int32)), .val (.int c1)] []))
      refine Go.by (fun t9_ q9_ => XS.iinc W296.here W296.hx rfl (hb hby dc_jdk_52_method_21_code_38) rfl (l' := #[.val (.ref ba), .val (.int (2 : Int32)), .val (.ref da), .val (.int (2 : Int32)), .val (.int (3 : Int32)), .val (.int ((1 : Int32) + (1 : Int32))), .val (.int c1)]) rfl q9_) ?_
      show Go p e below s Z [] _ _ _ (T294.setTop (mkF m 41 #[.val (.ref ba), .val (.int (2 : Int32)), .val (.ref da), .val (.int (2 : Int32)), .val (.int (3 : Int32)), .val (.int ((1 : Int32) + (1 : Int32))), .val (.int c1)] []))
      show Go p e below s Z [] _ _ _ (T294.setTop (mkF m 41 #[.val (.ref ba), .val (.int (2 : Int32)), .val (.ref da), .val (.int (2 : Int32)), .val (.int (3 : Int32)), .val (.int (2 : Int32)), .val (.int c1)] []))
      refine Go.by (fun t9_ q9_ => XS.goto W296.here W296.hx rfl (pc0 := 41) (pc' := 3) rfl (hb hby dc_jdk_52_method_21_code_41) (by decide) (by decide) (XS.iload W296.here W296.hx rfl (hb hby dc_jdk_52_method_21_code_3) rfl (XS.iload W296.here W296.hx rfl (hb hby dc_jdk_52_method_21_code_5) rfl q9_))) ?_
      show Go p e below s Z [] _ _ _ (T294.setTop (mkF m 7 #[.val (.ref ba), .val (.int (2 : Int32)), .val (.ref da), .val (.int (2 : Int32)), .val (.int (3 : Int32)), .val (.int (2 : Int32)), .val (.int c1)] [(.int (3 : Int32)), (.int (2 : Int32))]))
      refine Go.by (fun t9_ q9_ => XS.icmpNo W296.here W296.hx rfl (hb hby dc_jdk_52_method_21_code_7) rfl (tlt (by decide)).2.1 q9_) ?_
      show Go p e below s Z [] _ _ _ (T294.setTop (mkF m 10 #[.val (.ref ba), .val (.int (2 : Int32)), .val (.ref da), .val (.int (2 : Int32)), .val (.int (3 : Int32)), .val (.int (2 : Int32)), .val (.int c1)] []))
      refine Go.by (fun t9_ q9_ => XS.aloadN W296.here W296.hx rfl (hb hby dc_jdk_52_method_21_code_10) rfl rfl (XS.iloadN W296.here W296.hx rfl (hb hby dc_jdk_52_method_21_code_11) rfl q9_)) ?_
      show Go p e below s Z [] _ _ _ (T294.setTop (mkF m 12 #[.val (.ref ba), .val (.int (2 : Int32)), .val (.ref da), .val (.int (2 : Int32)), .val (.int (3 : Int32)), .val (.int (2 : Int32)), .val (.int c1)] [(.int (2 : Int32)), (.ref ba)]))
      refine W296.cald ((A_b.other Wr292 nbd).other Wr297 nbd) ⟨by decide, by decide⟩ (v := (.int c2)) rfl (hb hby dc_jdk_52_method_21_code_12) ?_
      show Go p e below s Z [] _ _ _ (T294.setTop (mkF m 13 #[.val (.ref ba), .val (.int (2 : Int32)), .val (.ref da), .val (.int (2 : Int32)), .val (.int (3 : Int32)), .val (.int (2 : Int32)), .val (.int c1)] [(.int c2)]))
      refine Go.by (fun t9_ q9_ => XS.istore W296.here W296.hx rfl (hb hby dc_jdk_52_method_21_code_13) rfl (l' := #[.val (.ref ba), .val (.int (2 : Int32)), .val (.ref da), .val (.int (2 : Int32)), .val (.int (3 : Int32)), .val (.int (2 : Int32)), .val (.int c2)]) rfl (XS.iload W296.here W296.hx rfl (hb hby dc_jdk_52_method_21_code_15) rfl (XS.sipush W296.here W296.hx rfl (hb hby dc_jdk_52_method_21_code_17) q9_))) ?_
      show Go p e below s Z [] _ _ _ (T294.setTop (mkF m 20 #[.val (.ref ba), .val (.int (2 : Int32)), .val (.ref da), .val (.int (2 : Int32)), .val (.int (3 : Int32)), .val (.int (2 : Int32)), .val (.int c2)] [(.int (255 : Int32)), (.int c2)]))
      by_cases e2 : (255 : Int32) < c2
      · refine Go.by (fun t9_ q9_ => XS.icmpNo W296.here W296.hx rfl (hb hby dc_jdk_52_method_21_code_20) rfl (tlt e2).2.2.2 q9_) ?_
        show Go p e below s Z [] _ _ _ (T294.setTop (mkF m 23 #[.val (.ref ba), .val (.int (2 : Int32)), .val (.ref da), .val (.int (2 : Int32)), .val (.int (3 : Int32)), .val (.int (2 : Int32)), .val (.int c2)] []))
        refine Go.by (fun t9_ q9_ => XS.iload W296.here W296.hx rfl (hb hby dc_jdk_52_method_21_code_23) rfl q9_) ?_
        show Go p e below s Z [] _ _ _ (T294.setTop (mkF m 25 #[.val (.ref ba), .val (.int (2 : Int32)), .val (.ref da), .val (.int (2 : Int32)), .val (.int (3 : Int32)), .val (.int (2 : Int32)), .val (.int c2)] [(.int (2 : Int32))]))
        exact W296.retI (by decide) (by decide) hret (hb hby dc_jdk_52_method_21_code_25) ⟨(2 : Int32), rfl, (((Keep.refl h0 [da]).wr Wr292 (Or.inl (List.mem_of_getElem? (i := 0) rfl))).wr Wr297 (Or.inl (List.mem_of_getElem? (i := 0) rfl))), Or.inr (Or.inr (⟨rfl, e2⟩))⟩
      · refine Go.by (fun t9_ q9_ => XS.icmpYes W296.here W296.hx rfl (pc0 := 20) (pc' := 26) rfl (hb hby dc_jdk_52_method_21_code_20) rfl (flt e2).2.2.2 (by decide) (by decide) q9_) ?_
        show Go p e below s Z [] _ _ _ (T294.setTop (mkF m 26 #[.val (.ref ba), .val (.int (2 : Int32)), .val (.ref da), .val (.int (2 : Int32)), .val (.int (3 : Int32)), .val (.int (2 : Int32)), .val (.int c2)] []))
        refine Go.by (fun t9_ q9_ => XS.aloadN W296.here W296.hx rfl (hb hby dc_jdk_52_method_21_code_26) rfl rfl (XS.iloadN W296.here W296.hx rfl (hb hby dc_jdk_52_method_21_code_27) rfl (XS.iload W296.here W296.hx rfl (hb hby dc_jdk_52_method_21_code_28) rfl (XS.i2b W296.here W296.hx rfl (hb hby dc_jdk_52_method_21_code_30) rfl q9_)))) ?_
        show Go p e below s Z [] _ _ _ (T294.setTop (mkF m 31 #[.val (.ref ba), .val (.int (2 : Int32)), .val (.ref da), .val (.int (2 : Int32)), .val (.int (3 : Int32)), .val (.int (2 : Int32)), .val (.int c2)] [(.int (c2.toInt8.toInt32)), (.int (2 : Int32)), (.ref da)]))
        refine W296.bast V298_da ⟨by decide, by decide⟩ (i := 2) rfl (by simp) (v' := (StrChars.lo8 c2)) (by simp [nar, StrChars.lo8, lo8_lo8]) z_da (List.mem_of_getElem? (i := 0) rfl) (hb hby dc_jdk_52_method_21_code_31) ?_
        intro T299 h300 W301 Wr302 V303_da'
        have V303_da : Arv Z h300 da k_da .byte (3 : Int32) [(.int (StrChars.lo8 c0)), (.int (StrChars.lo8 c1)), (.int (StrChars.lo8 c2))] (.int (0 : Int32)) := V303_da'
        show Go p e below s Z [] _ _ _ (T299.setTop (mkF m 32 #[.val (.ref ba), .val (.int (2 : Int32)), .val (.ref da), .val (.int (2 : Int32)), .val (.int (3 : Int32)), .val (.int (2 : Int32)), .val (.int c2)] []))
        refine Go.by (fun t9_ q9_ => XS.iinc W301.here W301.hx rfl (hb hby dc_jdk_52_method_21_code_32) rfl (l' := #[.val (.ref ba), .val (.int ((2 : Int32) + (1 : Int32))), .val (.ref da), .val (.int (2 : Int32)), .val (.int (3 : Int32)), .val (.int (2 : Int32)), .val (.int c2)]) rfl q9_) ?_
        show Go p e below s Z [] _ _ _ (T299.setTop (mkF m 35 #[.val (.ref ba), .val (.int ((2 : Int32) + (1 : Int32))), .val (.ref da), .val (.int (2 : Int32)), .val (.int (3 : Int32)), .val (.int (2 : Int32)), .val (.int c2)] []))
        show Go p e below s Z [] _ _ _ (T299.setTop (mkF m 35 #[.val (.ref ba), .val (.int (3 : Int32)), .val (.ref da), .val (.int (2 : Int32)), .val (.int (3 : Int32)), .val (.int (2 : Int32)), .val (.int c2)] []))
        refine Go.by (fun t9_ q9_ => XS.iinc W301.here W301.hx rfl (hb hby dc_jdk_52_method_21_code_35) rfl (l' := #[.val (.ref ba), .val (.int (3 : Int32)), .val (.ref da), .val (.int ((2 : Int32) + (1 : Int32))), .val (.int (3 : Int32)), .val (.int (2 : Int32)), .val (.int c2)]) rfl q9_) ?_
        show Go p e below s Z [] _ _ _ (T299.setTop (mkF m 38 #[.val (.ref ba), .val (.int (3 : Int32)), .val (.ref da), .val (.int ((2 : Int32) + (1 : Int32))), .val (.int (3 : Int32)), .val (.int (2 : Int32)), .val (.int c2)] []))
        show Go p e below s Z [] _ _ _ (T299.setTop (mkF m 38 #[.val (.ref ba), .val (.int (3 : Int32)), .val (.ref da), .val (.int (3 : Int32)), .val (.int (3 : Int32)), .val (.int (2 : Int32)), .val (.int c2)] []))
        refine Go.by (fun t9_ q9_ => XS.iinc W301.here W301.hx rfl (hb hby dc_jdk_52_method_21_code_38) rfl (l' := #[.val (.ref ba), .val (.int (3 : Int32)), .val (.ref da), .val (.int (3 : Int32)), .val (.int (3 : Int32)), .val (.int ((2 : Int32) + (1 : Int32))), .val (.int c2)]) rfl q9_) ?_
        show Go p e below s Z [] _ _ _ (T299.setTop (mkF m 41 #[.val (.ref ba), .val (.int (3 : Int32)), .val (.ref da), .val (.int (3 : Int32)), .val (.int (3 : Int32)), .val (.int ((2 : Int32) + (1 : Int32))), .val (.int c2)] []))
        show Go p e below s Z [] _ _ _ (T299.setTop (mkF m 41 #[.val (.ref ba), .val (.int (3 : Int32)), .val (.ref da), .val (.int (3 : Int32)), .val (.int (3 : Int32)), .val (.int (3 : Int32)), .val (.int c2)] []))
        rcases hbig with z0 | z1 | z2 <;> contradiction
set_option maxRecDepth 65536 in
set_option maxHeartbeats 40000000 in
theorem c_cm3_3 (l : Launch) (Z : State) (a0 : Array Value) (hw : ∀ d ∈ tables_1, d.before a0 Z = true) (hEL : EW Z a0 []) (h0 : Heap) (hE0 : Ext Z.heap h0) (ba : Addr) (kb : ClassId) (c0 c1 c2 : Int32) (SAD : Sta Z Z.heap "java/lang/StringUTF16" "$assertionsDisabled" "Z" (.int 1)) (SHI : Sta Z Z.heap "java/lang/StringUTF16" "HI_BYTE_SHIFT" "I" (.int 0)) (SLO : Sta Z Z.heap "java/lang/StringUTF16" "LO_BYTE_SHIFT" "I" (.int 8)) (A_b : Arv Z h0 ba kb .char (3 : Int32) [(.int c0), (.int c1), (.int c2)] (.int (0 : Int32))) (r0 : ¬ c0 < 0 ∧ ¬ (65535 : Int32) < c0) (r1 : ¬ c1 < 0 ∧ ¬ (65535 : Int32) < c1) (r2 : ¬ c2 < 0 ∧ ¬ (65535 : Int32) < c2) (hbig : (255 : Int32) < c0 ∨ (255 : Int32) < c1 ∨ (255 : Int32) < c2) :
    Con l Z [] [] (⟨"java/lang/StringUTF16", "compress", "([CII)[B"⟩ : MethodName) jdk_52_method_16_code 6 (some (.array .byte)) [] ({ frames := 3, cells := 2, slots := 9, locals := 40 } : Room) #[(.ref ba), (.int (0 : Int32)), (.int (3 : Int32))] h0 (fun v h' => ∃ ta kt, v = some (.ref ta) ∧ Ext h0 h' ∧ Exa Z h' ta "[B" ∧ Arv Z h' ta kt .byte (6 : Int32) [(.int (StrChars.lo8 c0)), (.int (StrChars.hi8 c0)), (.int (StrChars.lo8 c1)), (.int (StrChars.hi8 c1)), (.int (StrChars.lo8 c2)), (.int (StrChars.hi8 c2))] (.int (0 : Int32))) := by
  refine Con.mk (plainFor_of_name pn_0) hEL hE0 (fun x hx => by cases hx) ?_
  intro p e s m below meth c T0 hby hml hret hnm W0
  rw [(show entryFrame m #[(.ref ba), (.int (0 : Int32)), (.int (3 : Int32))] 6 = mkF m 0 #[.val (.ref ba), .val (.int (0 : Int32)), .val (.int (3 : Int32)), .unset, .unset, .unset] [] from by first | (simp [entryFrame, mkF, argsToLocals, Value.category]; done) | rfl)]
  refine Go.by (fun t9_ q9_ => XS.iloadN W0.here W0.hx rfl (hb hby dc_jdk_52_method_16_code_0) rfl q9_) ?_
  show Go p e below s Z [] _ _ _ (T0.setTop (mkF m 1 #[.val (.ref ba), .val (.int (0 : Int32)), .val (.int (3 : Int32)), .unset, .unset, .unset] [(.int (3 : Int32))]))
  refine W0.newp (aty := .byte) (wd19 hw) (hb hby dc_jdk_52_method_16_code_1) (by decide) (cap := 3) (by decide) (by decide) (k' := 1) (n' := 3) rfl rfl (by decide) (by decide) (ad := "[B") rfl ?_
  intro T304 h305 da k_da W306 E307 g_da z_da A_da V_da
  have V1_da : Arv Z h305 da k_da .byte (3 : Int32) [(.int (0 : Int32)), (.int (0 : Int32)), (.int (0 : Int32))] (.int (0 : Int32)) := V_da.pad (pad_rep [] (.int (0 : Int32)) 3)
  show Go p e below s Z [] _ _ _ (T304.setTop (mkF m 3 #[.val (.ref ba), .val (.int (0 : Int32)), .val (.int (3 : Int32)), .unset, .unset, .unset] [(.ref da)]))
  refine Go.by (fun t9_ q9_ => XS.astoreN W306.here W306.hx rfl (hb hby dc_jdk_52_method_16_code_3) rfl rfl (l' := #[.val (.ref ba), .val (.int (0 : Int32)), .val (.int (3 : Int32)), .val (.ref da), .unset, .unset]) rfl (XS.aloadN W306.here W306.hx rfl (hb hby dc_jdk_52_method_16_code_4) rfl rfl (XS.iloadN W306.here W306.hx rfl (hb hby dc_jdk_52_method_16_code_5) rfl (XS.aloadN W306.here W306.hx rfl (hb hby dc_jdk_52_method_16_code_6) rfl rfl (XS.iconst W306.here W306.hx rfl (hb hby dc_jdk_52_method_16_code_7) (XS.iloadN W306.here W306.hx rfl (hb hby dc_jdk_52_method_16_code_8) rfl q9_)))))) ?_
  show Go p e below s Z [] _ _ _ (T304.setTop (mkF m 9 #[.val (.ref ba), .val (.int (0 : Int32)), .val (.int (3 : Int32)), .val (.ref da), .unset, .unset] [(.int (3 : Int32)), (.int (0 : Int32)), (.ref da), (.int (0 : Int32)), (.ref ba)]))
  refine W306.callS (y := (⟨"java/lang/StringUTF16", "compress", "([CI[BII)I"⟩ : MethodName)) (wd20 hw) (wd21 hw) (wd17 hw) (wd22 hw) (by decide) (c_cm5_3 l Z a0 hw hEL h305 W306.old ba da kb k_da c0 c1 c2 (A_b.ext E307) V1_da z_da (Nat.ne_of_lt (Nat.lt_of_lt_of_le A_b.lt (Nat.le_of_eq g_da))) hbig) (allS (List.mem_of_getElem? (i := 0) rfl) all0) (by decide) (by decide) (k' := 1) (n' := 3) rfl rfl (by decide) (by decide) (by rw [hml]; rfl) (argsL := [(.ref ba), (.int (0 : Int32)), (.ref da), (.int (0 : Int32)), (.int (3 : Int32))]) (rest := []) (lenOf pd_3 rfl) rfl rfl (Wt := 0) (Nat.le_of_eq rfl) (hb hby dc_jdk_52_method_16_code_9) ?_
  intro v_ T308 h310 W309 hq_
  obtain ⟨kk, rfl, K1, hk⟩ := hq_
  show Go p e below s Z [] _ _ _ (T308.setTop (mkF m 12 #[.val (.ref ba), .val (.int (0 : Int32)), .val (.int (3 : Int32)), .val (.ref da), .unset, .unset] [(.int kk)]))
  refine Go.by (fun t9_ q9_ => XS.istore W309.here W309.hx rfl (hb hby dc_jdk_52_method_16_code_12) rfl (l' := #[.val (.ref ba), .val (.int (0 : Int32)), .val (.int (3 : Int32)), .val (.ref da), .val (.int kk), .unset]) rfl (XS.iload W309.here W309.hx rfl (hb hby dc_jdk_52_method_16_code_14) rfl (XS.iloadN W309.here W309.hx rfl (hb hby dc_jdk_52_method_16_code_16) rfl q9_))) ?_
  show Go p e below s Z [] _ _ _ (T308.setTop (mkF m 17 #[.val (.ref ba), .val (.int (0 : Int32)), .val (.int (3 : Int32)), .val (.ref da), .val (.int kk), .unset] [(.int (3 : Int32)), (.int kk)]))
  rcases hk with ⟨rfl, e0⟩ | ⟨rfl, e1⟩ | ⟨rfl, e2⟩
  · show Go p e below s Z [] _ _ _ (T308.setTop (mkF m 17 #[.val (.ref ba), .val (.int (0 : Int32)), .val (.int (3 : Int32)), .val (.ref da), .val (.int (0 : Int32)), .unset] [(.int (3 : Int32)), (.int (0 : Int32))]))
    refine Go.by (fun t9_ q9_ => XS.icmpNo W309.here W309.hx rfl (hb hby dc_jdk_52_method_16_code_17) rfl (feq (by decide)).1 q9_) ?_
    show Go p e below s Z [] _ _ _ (T308.setTop (mkF m 20 #[.val (.ref ba), .val (.int (0 : Int32)), .val (.int (3 : Int32)), .val (.ref da), .val (.int (0 : Int32)), .unset] []))
    refine Go.by (fun t9_ q9_ => XS.aloadN W309.here W309.hx rfl (hb hby dc_jdk_52_method_16_code_20) rfl rfl (XS.iloadN W309.here W309.hx rfl (hb hby dc_jdk_52_method_16_code_21) rfl (XS.iloadN W309.here W309.hx rfl (hb hby dc_jdk_52_method_16_code_22) rfl q9_))) ?_
    show Go p e below s Z [] _ _ _ (T308.setTop (mkF m 23 #[.val (.ref ba), .val (.int (0 : Int32)), .val (.int (3 : Int32)), .val (.ref da), .val (.int (0 : Int32)), .unset] [(.int (3 : Int32)), (.int (0 : Int32)), (.ref ba)]))
    have X311 : Ext h0 h310 := (Ext.keep' E307 K1 (allS (Nat.le_of_eq g_da) all0))
    refine W309.callS (y := (⟨"java/lang/StringUTF16", "toBytes", "([CII)[B"⟩ : MethodName)) (wd79 hw) (wd80 hw) (wd17 hw) (wd81 hw) (by decide) (c_tb3 l Z a0 hw hEL h310 W309.old ba kb c0 c1 c2 SAD SHI SLO (A_b.ext X311)) all0 (by decide) (by decide) (k' := 2) (n' := 9) rfl rfl (by decide) (by decide) (by rw [hml]; rfl) (argsL := [(.ref ba), (.int (0 : Int32)), (.int (3 : Int32))]) (rest := []) (lenOf pd_4 rfl) rfl rfl (Wt := 0) (Nat.le_of_eq rfl) (hb hby dc_jdk_52_method_16_code_23) ?_
    intro v_ T312 h314 W313 hq_
    obtain ⟨ta, k_ta, rfl, X2, E_ta, A_ta⟩ := hq_
    show Go p e below s Z [] _ _ _ (T312.setTop (mkF m 26 #[.val (.ref ba), .val (.int (0 : Int32)), .val (.int (3 : Int32)), .val (.ref da), .val (.int (0 : Int32)), .unset] [(.ref ta)]))
    refine Go.by (fun t9_ q9_ => XS.astore W313.here W313.hx rfl (hb hby dc_jdk_52_method_16_code_26) rfl rfl (l' := #[.val (.ref ba), .val (.int (0 : Int32)), .val (.int (3 : Int32)), .val (.ref da), .val (.int (0 : Int32)), .val (.ref ta)]) rfl (XS.aload W313.here W313.hx rfl (hb hby dc_jdk_52_method_16_code_28) rfl rfl (XS.iload W313.here W313.hx rfl (hb hby dc_jdk_52_method_16_code_30) rfl q9_))) ?_
    show Go p e below s Z [] _ _ _ (T312.setTop (mkF m 32 #[.val (.ref ba), .val (.int (0 : Int32)), .val (.int (3 : Int32)), .val (.ref da), .val (.int (0 : Int32)), .val (.ref ta)] [(.int (0 : Int32)), (.ref ta)]))
    refine W313.callSp (y := (⟨"java/lang/StringUTF16", "getChar", "([BI)C"⟩ : MethodName)) (wd95 hw) (wd96 hw) (wd17 hw) (wd97 hw) (by decide) (c_get3_0 l Z a0 hw hEL h314 W313.old ta k_ta _ _ _ c0 SAD SHI SLO A_ta rfl rfl (StrChars.pair_says r0.1 r0.2) r0) all0 (by decide) (by decide) (k' := 2) (n' := 9) rfl rfl (by decide) (by decide) (by rw [hml]; rfl) (argsL := [(.ref ta), (.int (0 : Int32))]) (rest := []) (lenOf pd_5 rfl) rfl rfl (Wt := 0) (Nat.le_of_eq rfl) (hb hby dc_jdk_52_method_16_code_32) ?_
    intro T315 W316
    show Go p e below s Z [] _ _ _ (T315.setTop (mkF m 35 #[.val (.ref ba), .val (.int (0 : Int32)), .val (.int (3 : Int32)), .val (.ref da), .val (.int (0 : Int32)), .val (.ref ta)] [(.int c0)]))
    refine Go.by (fun t9_ q9_ => XS.sipush W316.here W316.hx rfl (hb hby dc_jdk_52_method_16_code_35) q9_) ?_
    show Go p e below s Z [] _ _ _ (T315.setTop (mkF m 38 #[.val (.ref ba), .val (.int (0 : Int32)), .val (.int (3 : Int32)), .val (.ref da), .val (.int (0 : Int32)), .val (.ref ta)] [(.int (255 : Int32)), (.int c0)]))
    refine Go.by (fun t9_ q9_ => XS.icmpYes W316.here W316.hx rfl (pc0 := 38) (pc' := 54) rfl (hb hby dc_jdk_52_method_16_code_38) rfl (tlt e0).2.2.1 (by decide) (by decide) q9_) ?_
    show Go p e below s Z [] _ _ _ (T315.setTop (mkF m 54 #[.val (.ref ba), .val (.int (0 : Int32)), .val (.int (3 : Int32)), .val (.ref da), .val (.int (0 : Int32)), .val (.ref ta)] []))
    refine Go.by (fun t9_ q9_ => XS.aload W316.here W316.hx rfl (hb hby dc_jdk_52_method_16_code_54) rfl rfl q9_) ?_
    show Go p e below s Z [] _ _ _ (T315.setTop (mkF m 56 #[.val (.ref ba), .val (.int (0 : Int32)), .val (.int (3 : Int32)), .val (.ref da), .val (.int (0 : Int32)), .val (.ref ta)] [(.ref ta)]))
    have X317 : Ext h0 h314 := (Ext.trans' X311 X2)
    exact W316.retA (by decide) (by decide) hret rfl rfl (hb hby dc_jdk_52_method_16_code_56) ⟨ta, k_ta, rfl, X317, E_ta, A_ta⟩
  · show Go p e below s Z [] _ _ _ (T308.setTop (mkF m 17 #[.val (.ref ba), .val (.int (0 : Int32)), .val (.int (3 : Int32)), .val (.ref da), .val (.int (1 : Int32)), .unset] [(.int (3 : Int32)), (.int (1 : Int32))]))
    refine Go.by (fun t9_ q9_ => XS.icmpNo W309.here W309.hx rfl (hb hby dc_jdk_52_method_16_code_17) rfl (feq (by decide)).1 q9_) ?_
    show Go p e below s Z [] _ _ _ (T308.setTop (mkF m 20 #[.val (.ref ba), .val (.int (0 : Int32)), .val (.int (3 : Int32)), .val (.ref da), .val (.int (1 : Int32)), .unset] []))
    refine Go.by (fun t9_ q9_ => XS.aloadN W309.here W309.hx rfl (hb hby dc_jdk_52_method_16_code_20) rfl rfl (XS.iloadN W309.here W309.hx rfl (hb hby dc_jdk_52_method_16_code_21) rfl (XS.iloadN W309.here W309.hx rfl (hb hby dc_jdk_52_method_16_code_22) rfl q9_))) ?_
    show Go p e below s Z [] _ _ _ (T308.setTop (mkF m 23 #[.val (.ref ba), .val (.int (0 : Int32)), .val (.int (3 : Int32)), .val (.ref da), .val (.int (1 : Int32)), .unset] [(.int (3 : Int32)), (.int (0 : Int32)), (.ref ba)]))
    have X318 : Ext h0 h310 := (Ext.keep' E307 K1 (allS (Nat.le_of_eq g_da) all0))
    refine W309.callS (y := (⟨"java/lang/StringUTF16", "toBytes", "([CII)[B"⟩ : MethodName)) (wd79 hw) (wd80 hw) (wd17 hw) (wd81 hw) (by decide) (c_tb3 l Z a0 hw hEL h310 W309.old ba kb c0 c1 c2 SAD SHI SLO (A_b.ext X318)) all0 (by decide) (by decide) (k' := 2) (n' := 9) rfl rfl (by decide) (by decide) (by rw [hml]; rfl) (argsL := [(.ref ba), (.int (0 : Int32)), (.int (3 : Int32))]) (rest := []) (lenOf pd_4 rfl) rfl rfl (Wt := 0) (Nat.le_of_eq rfl) (hb hby dc_jdk_52_method_16_code_23) ?_
    intro v_ T319 h321 W320 hq_
    obtain ⟨ta, k_ta, rfl, X2, E_ta, A_ta⟩ := hq_
    show Go p e below s Z [] _ _ _ (T319.setTop (mkF m 26 #[.val (.ref ba), .val (.int (0 : Int32)), .val (.int (3 : Int32)), .val (.ref da), .val (.int (1 : Int32)), .unset] [(.ref ta)]))
    refine Go.by (fun t9_ q9_ => XS.astore W320.here W320.hx rfl (hb hby dc_jdk_52_method_16_code_26) rfl rfl (l' := #[.val (.ref ba), .val (.int (0 : Int32)), .val (.int (3 : Int32)), .val (.ref da), .val (.int (1 : Int32)), .val (.ref ta)]) rfl (XS.aload W320.here W320.hx rfl (hb hby dc_jdk_52_method_16_code_28) rfl rfl (XS.iload W320.here W320.hx rfl (hb hby dc_jdk_52_method_16_code_30) rfl q9_))) ?_
    show Go p e below s Z [] _ _ _ (T319.setTop (mkF m 32 #[.val (.ref ba), .val (.int (0 : Int32)), .val (.int (3 : Int32)), .val (.ref da), .val (.int (1 : Int32)), .val (.ref ta)] [(.int (1 : Int32)), (.ref ta)]))
    refine W320.callSp (y := (⟨"java/lang/StringUTF16", "getChar", "([BI)C"⟩ : MethodName)) (wd95 hw) (wd96 hw) (wd17 hw) (wd97 hw) (by decide) (c_get3_1 l Z a0 hw hEL h321 W320.old ta k_ta _ _ _ c1 SAD SHI SLO A_ta rfl rfl (StrChars.pair_says r1.1 r1.2) r1) all0 (by decide) (by decide) (k' := 2) (n' := 9) rfl rfl (by decide) (by decide) (by rw [hml]; rfl) (argsL := [(.ref ta), (.int (1 : Int32))]) (rest := []) (lenOf pd_5 rfl) rfl rfl (Wt := 0) (Nat.le_of_eq rfl) (hb hby dc_jdk_52_method_16_code_32) ?_
    intro T322 W323
    show Go p e below s Z [] _ _ _ (T322.setTop (mkF m 35 #[.val (.ref ba), .val (.int (0 : Int32)), .val (.int (3 : Int32)), .val (.ref da), .val (.int (1 : Int32)), .val (.ref ta)] [(.int c1)]))
    refine Go.by (fun t9_ q9_ => XS.sipush W323.here W323.hx rfl (hb hby dc_jdk_52_method_16_code_35) q9_) ?_
    show Go p e below s Z [] _ _ _ (T322.setTop (mkF m 38 #[.val (.ref ba), .val (.int (0 : Int32)), .val (.int (3 : Int32)), .val (.ref da), .val (.int (1 : Int32)), .val (.ref ta)] [(.int (255 : Int32)), (.int c1)]))
    refine Go.by (fun t9_ q9_ => XS.icmpYes W323.here W323.hx rfl (pc0 := 38) (pc' := 54) rfl (hb hby dc_jdk_52_method_16_code_38) rfl (tlt e1).2.2.1 (by decide) (by decide) q9_) ?_
    show Go p e below s Z [] _ _ _ (T322.setTop (mkF m 54 #[.val (.ref ba), .val (.int (0 : Int32)), .val (.int (3 : Int32)), .val (.ref da), .val (.int (1 : Int32)), .val (.ref ta)] []))
    refine Go.by (fun t9_ q9_ => XS.aload W323.here W323.hx rfl (hb hby dc_jdk_52_method_16_code_54) rfl rfl q9_) ?_
    show Go p e below s Z [] _ _ _ (T322.setTop (mkF m 56 #[.val (.ref ba), .val (.int (0 : Int32)), .val (.int (3 : Int32)), .val (.ref da), .val (.int (1 : Int32)), .val (.ref ta)] [(.ref ta)]))
    have X324 : Ext h0 h321 := (Ext.trans' X318 X2)
    exact W323.retA (by decide) (by decide) hret rfl rfl (hb hby dc_jdk_52_method_16_code_56) ⟨ta, k_ta, rfl, X324, E_ta, A_ta⟩
  · show Go p e below s Z [] _ _ _ (T308.setTop (mkF m 17 #[.val (.ref ba), .val (.int (0 : Int32)), .val (.int (3 : Int32)), .val (.ref da), .val (.int (2 : Int32)), .unset] [(.int (3 : Int32)), (.int (2 : Int32))]))
    refine Go.by (fun t9_ q9_ => XS.icmpNo W309.here W309.hx rfl (hb hby dc_jdk_52_method_16_code_17) rfl (feq (by decide)).1 q9_) ?_
    show Go p e below s Z [] _ _ _ (T308.setTop (mkF m 20 #[.val (.ref ba), .val (.int (0 : Int32)), .val (.int (3 : Int32)), .val (.ref da), .val (.int (2 : Int32)), .unset] []))
    refine Go.by (fun t9_ q9_ => XS.aloadN W309.here W309.hx rfl (hb hby dc_jdk_52_method_16_code_20) rfl rfl (XS.iloadN W309.here W309.hx rfl (hb hby dc_jdk_52_method_16_code_21) rfl (XS.iloadN W309.here W309.hx rfl (hb hby dc_jdk_52_method_16_code_22) rfl q9_))) ?_
    show Go p e below s Z [] _ _ _ (T308.setTop (mkF m 23 #[.val (.ref ba), .val (.int (0 : Int32)), .val (.int (3 : Int32)), .val (.ref da), .val (.int (2 : Int32)), .unset] [(.int (3 : Int32)), (.int (0 : Int32)), (.ref ba)]))
    have X325 : Ext h0 h310 := (Ext.keep' E307 K1 (allS (Nat.le_of_eq g_da) all0))
    refine W309.callS (y := (⟨"java/lang/StringUTF16", "toBytes", "([CII)[B"⟩ : MethodName)) (wd79 hw) (wd80 hw) (wd17 hw) (wd81 hw) (by decide) (c_tb3 l Z a0 hw hEL h310 W309.old ba kb c0 c1 c2 SAD SHI SLO (A_b.ext X325)) all0 (by decide) (by decide) (k' := 2) (n' := 9) rfl rfl (by decide) (by decide) (by rw [hml]; rfl) (argsL := [(.ref ba), (.int (0 : Int32)), (.int (3 : Int32))]) (rest := []) (lenOf pd_4 rfl) rfl rfl (Wt := 0) (Nat.le_of_eq rfl) (hb hby dc_jdk_52_method_16_code_23) ?_
    intro v_ T326 h328 W327 hq_
    obtain ⟨ta, k_ta, rfl, X2, E_ta, A_ta⟩ := hq_
    show Go p e below s Z [] _ _ _ (T326.setTop (mkF m 26 #[.val (.ref ba), .val (.int (0 : Int32)), .val (.int (3 : Int32)), .val (.ref da), .val (.int (2 : Int32)), .unset] [(.ref ta)]))
    refine Go.by (fun t9_ q9_ => XS.astore W327.here W327.hx rfl (hb hby dc_jdk_52_method_16_code_26) rfl rfl (l' := #[.val (.ref ba), .val (.int (0 : Int32)), .val (.int (3 : Int32)), .val (.ref da), .val (.int (2 : Int32)), .val (.ref ta)]) rfl (XS.aload W327.here W327.hx rfl (hb hby dc_jdk_52_method_16_code_28) rfl rfl (XS.iload W327.here W327.hx rfl (hb hby dc_jdk_52_method_16_code_30) rfl q9_))) ?_
    show Go p e below s Z [] _ _ _ (T326.setTop (mkF m 32 #[.val (.ref ba), .val (.int (0 : Int32)), .val (.int (3 : Int32)), .val (.ref da), .val (.int (2 : Int32)), .val (.ref ta)] [(.int (2 : Int32)), (.ref ta)]))
    refine W327.callSp (y := (⟨"java/lang/StringUTF16", "getChar", "([BI)C"⟩ : MethodName)) (wd95 hw) (wd96 hw) (wd17 hw) (wd97 hw) (by decide) (c_get3_2 l Z a0 hw hEL h328 W327.old ta k_ta _ _ _ c2 SAD SHI SLO A_ta rfl rfl (StrChars.pair_says r2.1 r2.2) r2) all0 (by decide) (by decide) (k' := 2) (n' := 9) rfl rfl (by decide) (by decide) (by rw [hml]; rfl) (argsL := [(.ref ta), (.int (2 : Int32))]) (rest := []) (lenOf pd_5 rfl) rfl rfl (Wt := 0) (Nat.le_of_eq rfl) (hb hby dc_jdk_52_method_16_code_32) ?_
    intro T329 W330
    show Go p e below s Z [] _ _ _ (T329.setTop (mkF m 35 #[.val (.ref ba), .val (.int (0 : Int32)), .val (.int (3 : Int32)), .val (.ref da), .val (.int (2 : Int32)), .val (.ref ta)] [(.int c2)]))
    refine Go.by (fun t9_ q9_ => XS.sipush W330.here W330.hx rfl (hb hby dc_jdk_52_method_16_code_35) q9_) ?_
    show Go p e below s Z [] _ _ _ (T329.setTop (mkF m 38 #[.val (.ref ba), .val (.int (0 : Int32)), .val (.int (3 : Int32)), .val (.ref da), .val (.int (2 : Int32)), .val (.ref ta)] [(.int (255 : Int32)), (.int c2)]))
    refine Go.by (fun t9_ q9_ => XS.icmpYes W330.here W330.hx rfl (pc0 := 38) (pc' := 54) rfl (hb hby dc_jdk_52_method_16_code_38) rfl (tlt e2).2.2.1 (by decide) (by decide) q9_) ?_
    show Go p e below s Z [] _ _ _ (T329.setTop (mkF m 54 #[.val (.ref ba), .val (.int (0 : Int32)), .val (.int (3 : Int32)), .val (.ref da), .val (.int (2 : Int32)), .val (.ref ta)] []))
    refine Go.by (fun t9_ q9_ => XS.aload W330.here W330.hx rfl (hb hby dc_jdk_52_method_16_code_54) rfl rfl q9_) ?_
    show Go p e below s Z [] _ _ _ (T329.setTop (mkF m 56 #[.val (.ref ba), .val (.int (0 : Int32)), .val (.int (3 : Int32)), .val (.ref da), .val (.int (2 : Int32)), .val (.ref ta)] [(.ref ta)]))
    have X331 : Ext h0 h328 := (Ext.trans' X325 X2)
    exact W330.retA (by decide) (by decide) hret rfl rfl (hb hby dc_jdk_52_method_16_code_56) ⟨ta, k_ta, rfl, X331, E_ta, A_ta⟩
set_option maxRecDepth 65536 in
set_option maxHeartbeats 40000000 in
theorem c_cod3 (l : Launch) (Z : State) (a0 : Array Value) (hw : ∀ d ∈ tables_1, d.before a0 Z = true) (hEL : EW Z a0 []) (h0 : Heap) (hE0 : Ext Z.heap h0) (ta : Addr) (k_ta : ClassId) (vs : List Value) (A_t : Arv Z h0 ta k_ta .byte (6 : Int32) vs (.int (0 : Int32))) :
    Con l Z [] [] (⟨"java/lang/StringUTF16", "coderFromArrayLen", "([BI)B"⟩ : MethodName) jdk_52_method_15_code 2 (some .byte) [] ({ frames := 0, cells := 0, slots := 0, locals := 0 } : Room) #[(.ref ta), (.int (3 : Int32))] h0 (fun v h' => v = (some (.int 1)) ∧ h' = h0) := by
  refine Con.mk (plainFor_of_name pn_0) hEL hE0 (fun x hx => by cases hx) ?_
  intro p e s m below meth c T0 hby hml hret hnm W0
  rw [(show entryFrame m #[(.ref ta), (.int (3 : Int32))] 2 = mkF m 0 #[.val (.ref ta), .val (.int (3 : Int32))] [] from by first | (simp [entryFrame, mkF, argsToLocals, Value.category]; done) | rfl)]
  refine Go.by (fun t9_ q9_ => XS.iloadN W0.here W0.hx rfl (hb hby dc_jdk_52_method_15_code_0) rfl (XS.aloadN W0.here W0.hx rfl (hb hby dc_jdk_52_method_15_code_1) rfl rfl q9_)) ?_
  show Go p e below s Z [] _ _ _ (T0.setTop (mkF m 2 #[.val (.ref ta), .val (.int (3 : Int32))] [(.ref ta), (.int (3 : Int32))]))
  refine W0.alen A_t (hb hby dc_jdk_52_method_15_code_2) ?_
  show Go p e below s Z [] _ _ _ (T0.setTop (mkF m 3 #[.val (.ref ta), .val (.int (3 : Int32))] [(.int (6 : Int32)), (.int (3 : Int32))]))
  refine Go.by (fun t9_ q9_ => XS.isub W0.here W0.hx rfl (hb hby dc_jdk_52_method_15_code_3) rfl (XS.bipush W0.here W0.hx rfl (hb hby dc_jdk_52_method_15_code_4) (XS.iushr W0.here W0.hx rfl (hb hby dc_jdk_52_method_15_code_6) rfl (XS.i2b W0.here W0.hx rfl (hb hby dc_jdk_52_method_15_code_7) rfl q9_)))) ?_
  show Go p e below s Z [] _ _ _ (T0.setTop (mkF m 8 #[.val (.ref ta), .val (.int (3 : Int32))] [(.int (((((3 : Int32) - (6 : Int32)).toUInt32 >>> ((31 : Int32) &&& 31).toUInt32).toInt32).toInt8.toInt32))]))
  exact W0.retN (z' := (1 : Int32)) (by decide) (by decide) hret (by simp) (hb hby dc_jdk_52_method_15_code_8) (by decide) ⟨rfl, rfl⟩
set_option maxRecDepth 65536 in
set_option maxHeartbeats 40000000 in
theorem c_s4_3 (l : Launch) (Z : State) (a0 : Array Value) (hw : ∀ d ∈ tables_1, d.before a0 Z = true) (hEL : EW Z a0 []) (h0 : Heap) (hE0 : Ext Z.heap h0) (x ba : Addr) (kb : ClassId) (c0 c1 c2 G1 : Int32) (E_x : Exa Z h0 x "java/lang/String") (FV : Fld Z h0 x "java/lang/String" "value" "[B" .null) (FC : Fld Z h0 x "java/lang/String" "coder" "B" (.int 0)) (z_x : Z.heap.size ≤ x) (SAD : Sta Z Z.heap "java/lang/StringUTF16" "$assertionsDisabled" "Z" (.int 1)) (SHI : Sta Z Z.heap "java/lang/StringUTF16" "HI_BYTE_SHIFT" "I" (.int 0)) (SLO : Sta Z Z.heap "java/lang/StringUTF16" "LO_BYTE_SHIFT" "I" (.int 8)) (SG1 : Sta Z Z.heap "java/lang/String" "COMPACT_STRINGS" "Z" (.int G1)) (hG : ¬ G1 = 0) (A_b : Arv Z h0 ba kb .char (3 : Int32) [(.int c0), (.int c1), (.int c2)] (.int (0 : Int32))) (r0 : ¬ c0 < 0 ∧ ¬ (65535 : Int32) < c0) (r1 : ¬ c1 < 0 ∧ ¬ (65535 : Int32) < c1) (r2 : ¬ c2 < 0 ∧ ¬ (65535 : Int32) < c2) (hbig : (255 : Int32) < c0 ∨ (255 : Int32) < c1 ∨ (255 : Int32) < c2) :
    Con l Z [] [x] (⟨"java/lang/String", "<init>", "([CIILjava/lang/Void;)V"⟩ : MethodName) jdk_42_method_149_code 6 none [] ({ frames := 4, cells := 2, slots := 9, locals := 57 } : Room) #[(.ref x), (.ref ba), (.int (0 : Int32)), (.int (3 : Int32)), .null] h0 (fun v h' => v = none ∧ Keep h0 h' [x] ∧ ∃ ta kt, Exa Z h' x "java/lang/String" ∧ Fld Z h' x "java/lang/String" "value" "[B" (.ref ta) ∧ Fld Z h' x "java/lang/String" "coder" "B" (.int 1) ∧ Arv Z h' ta kt .byte (6 : Int32) [(.int (StrChars.lo8 c0)), (.int (StrChars.hi8 c0)), (.int (StrChars.lo8 c1)), (.int (StrChars.hi8 c1)), (.int (StrChars.lo8 c2)), (.int (StrChars.hi8 c2))] (.int (0 : Int32))) := by
  refine Con.mk (plainFor_of_name pn_1) hEL hE0 (allS E_x.lt all0) ?_
  intro p e s m below meth c T0 hby hml hret hnm W0
  rw [(show entryFrame m #[(.ref x), (.ref ba), (.int (0 : Int32)), (.int (3 : Int32)), .null] 6 = mkF m 0 #[.val (.ref x), .val (.ref ba), .val (.int (0 : Int32)), .val (.int (3 : Int32)), .val .null, .unset] [] from by first | (simp [entryFrame, mkF, argsToLocals, Value.category]; done) | rfl)]
  refine Go.by (fun t9_ q9_ => XS.aloadN W0.here W0.hx rfl (hb hby dc_jdk_42_method_149_code_0) rfl rfl q9_) ?_
  show Go p e below s Z [] _ _ _ (T0.setTop (mkF m 1 #[.val (.ref x), .val (.ref ba), .val (.int (0 : Int32)), .val (.int (3 : Int32)), .val .null, .unset] [(.ref x)]))
  refine W0.initO (wd11 hw) (wd12 hw) (wd13 hw) (by rw [hml]; rfl) (hb hby dc_jdk_42_method_149_code_1) (by decide) (Wt := 0) (Nat.le_of_eq rfl) (by decide) ?_
  intro T332 W333
  show Go p e below s Z [] _ _ _ (T332.setTop (mkF m 4 #[.val (.ref x), .val (.ref ba), .val (.int (0 : Int32)), .val (.int (3 : Int32)), .val .null, .unset] []))
  refine Go.by (fun t9_ q9_ => XS.iloadN W333.here W333.hx rfl (hb hby dc_jdk_42_method_149_code_4) rfl q9_) ?_
  show Go p e below s Z [] _ _ _ (T332.setTop (mkF m 5 #[.val (.ref x), .val (.ref ba), .val (.int (0 : Int32)), .val (.int (3 : Int32)), .val .null, .unset] [(.int (3 : Int32))]))
  refine Go.by (fun t9_ q9_ => XS.ifYes W333.here W333.hx rfl (pc0 := 5) (pc' := 27) rfl (hb hby dc_jdk_42_method_149_code_5) rfl ((if0 _ _).trans (feq (by decide)).2) (by decide) (by decide) q9_) ?_
  show Go p e below s Z [] _ _ _ (T332.setTop (mkF m 27 #[.val (.ref x), .val (.ref ba), .val (.int (0 : Int32)), .val (.int (3 : Int32)), .val .null, .unset] []))
  refine W333.gets (host := "") (Or.inl (wd14 hw)) Via.refl (SG1.ext W333.old) (hb hby dc_jdk_42_method_149_code_27) ?_
  intro T334 W335
  show Go p e below s Z [] _ _ _ (T334.setTop (mkF m 30 #[.val (.ref x), .val (.ref ba), .val (.int (0 : Int32)), .val (.int (3 : Int32)), .val .null, .unset] [(.int G1)]))
  refine Go.by (fun t9_ q9_ => XS.ifNo W335.here W335.hx rfl (hb hby dc_jdk_42_method_149_code_30) rfl ((if0 _ _).trans (feq hG).1) q9_) ?_
  show Go p e below s Z [] _ _ _ (T334.setTop (mkF m 33 #[.val (.ref x), .val (.ref ba), .val (.int (0 : Int32)), .val (.int (3 : Int32)), .val .null, .unset] []))
  refine Go.by (fun t9_ q9_ => XS.aloadN W335.here W335.hx rfl (hb hby dc_jdk_42_method_149_code_33) rfl rfl (XS.iloadN W335.here W335.hx rfl (hb hby dc_jdk_42_method_149_code_34) rfl (XS.iloadN W335.here W335.hx rfl (hb hby dc_jdk_42_method_149_code_35) rfl q9_))) ?_
  show Go p e below s Z [] _ _ _ (T334.setTop (mkF m 36 #[.val (.ref x), .val (.ref ba), .val (.int (0 : Int32)), .val (.int (3 : Int32)), .val .null, .unset] [(.int (3 : Int32)), (.int (0 : Int32)), (.ref ba)]))
  refine W335.callS (y := (⟨"java/lang/StringUTF16", "compress", "([CII)[B"⟩ : MethodName)) (wd15 hw) (wd16 hw) (wd17 hw) (wd18 hw) (by decide) (c_cm3_3 l Z a0 hw hEL h0 W335.old ba kb c0 c1 c2 SAD SHI SLO A_b r0 r1 r2 hbig) all0 (by decide) (by decide) (k' := 2) (n' := 9) rfl rfl (by decide) (by decide) (by rw [hml]; rfl) (argsL := [(.ref ba), (.int (0 : Int32)), (.int (3 : Int32))]) (rest := []) (lenOf pd_4 rfl) rfl rfl (Wt := 0) (Nat.le_of_eq rfl) (hb hby dc_jdk_42_method_149_code_36) ?_
  intro v_ T336 h338 W337 hq_
  obtain ⟨ta, k_ta, rfl, X1, E_ta, A_ta⟩ := hq_
  show Go p e below s Z [] _ _ _ (T336.setTop (mkF m 39 #[.val (.ref x), .val (.ref ba), .val (.int (0 : Int32)), .val (.int (3 : Int32)), .val .null, .unset] [(.ref ta)]))
  refine Go.by (fun t9_ q9_ => XS.astore W337.here W337.hx rfl (hb hby dc_jdk_42_method_149_code_39) rfl rfl (l' := #[.val (.ref x), .val (.ref ba), .val (.int (0 : Int32)), .val (.int (3 : Int32)), .val .null, .val (.ref ta)]) rfl (XS.aloadN W337.here W337.hx rfl (hb hby dc_jdk_42_method_149_code_41) rfl rfl (XS.aload W337.here W337.hx rfl (hb hby dc_jdk_42_method_149_code_42) rfl rfl (XS.iloadN W337.here W337.hx rfl (hb hby dc_jdk_42_method_149_code_44) rfl q9_)))) ?_
  show Go p e below s Z [] _ _ _ (T336.setTop (mkF m 45 #[.val (.ref x), .val (.ref ba), .val (.int (0 : Int32)), .val (.int (3 : Int32)), .val .null, .val (.ref ta)] [(.int (3 : Int32)), (.ref ta), (.ref x)]))
  refine W337.callSp (y := (⟨"java/lang/StringUTF16", "coderFromArrayLen", "([BI)B"⟩ : MethodName)) (wd23 hw) (wd24 hw) (wd17 hw) (wd25 hw) (by decide) (c_cod3 l Z a0 hw hEL h338 W337.old ta k_ta _ A_ta) all0 (by decide) (by decide) (k' := 2) (n' := 9) rfl rfl (by decide) (by decide) (by rw [hml]; rfl) (argsL := [(.ref ta), (.int (3 : Int32))]) (rest := [(.ref x)]) (lenOf pd_6 rfl) rfl rfl (Wt := 1) (Nat.le_of_eq rfl) (hb hby dc_jdk_42_method_149_code_45) ?_
  intro T339 W340
  show Go p e below s Z [] _ _ _ (T339.setTop (mkF m 48 #[.val (.ref x), .val (.ref ba), .val (.int (0 : Int32)), .val (.int (3 : Int32)), .val .null, .val (.ref ta)] [(.int (1 : Int32)), (.ref x)]))
  refine W340.putf (host := "") (Or.inl (wd26 hw)) Via.refl (FC.ext X1) (E_x.ext X1) (Or.inr ⟨(wd27 hw), rfl, hnm⟩) (wd2 hw) (ty := .byte) (by decide) rfl rfl z_x (List.mem_of_getElem? (i := 0) rfl) (hb hby dc_jdk_42_method_149_code_48) ?_
  intro T341 h342 W343 Wr344
  have F345 : Fld Z h342 x "java/lang/String" "coder" "B" (.int (1 : Int32)) := (FC.ext X1).same Wr344
  have F346 : Fld Z h342 x "java/lang/String" "value" "[B" .null := (FV.ext X1).other Wr344 (Or.inr (slot_ne (Or.inr (wd29 hw)) (Or.inr (wd27 hw)) (by decide) (t := (.array .byte)) (t' := .byte) (by decide) (by decide)))
  have A347 : Exa Z h342 x "java/lang/String" := (E_x.ext X1).wr Wr344
  show Go p e below s Z [] _ _ _ (T341.setTop (mkF m 51 #[.val (.ref x), .val (.ref ba), .val (.int (0 : Int32)), .val (.int (3 : Int32)), .val .null, .val (.ref ta)] []))
  refine Go.by (fun t9_ q9_ => XS.aloadN W343.here W343.hx rfl (hb hby dc_jdk_42_method_149_code_51) rfl rfl (XS.aload W343.here W343.hx rfl (hb hby dc_jdk_42_method_149_code_52) rfl rfl q9_)) ?_
  show Go p e below s Z [] _ _ _ (T341.setTop (mkF m 54 #[.val (.ref x), .val (.ref ba), .val (.int (0 : Int32)), .val (.int (3 : Int32)), .val .null, .val (.ref ta)] [(.ref ta), (.ref x)]))
  refine W343.putf (host := "") (Or.inl (wd28 hw)) Via.refl F346 A347 (Or.inr ⟨(wd29 hw), rfl, hnm⟩) (wd2 hw) (ty := (.array .byte)) (by decide) rfl rfl z_x (List.mem_of_getElem? (i := 0) rfl) (hb hby dc_jdk_42_method_149_code_54) ?_
  intro T348 h349 W350 Wr351
  have F352 : Fld Z h349 x "java/lang/String" "value" "[B" (.ref ta) := F346.same Wr351
  have F353 : Fld Z h349 x "java/lang/String" "coder" "B" (.int (1 : Int32)) := F345.other Wr351 (Or.inr (slot_ne (Or.inr (wd27 hw)) (Or.inr (wd29 hw)) (by decide) (t := .byte) (t' := (.array .byte)) (by decide) (by decide)))
  have A354 : Exa Z h349 x "java/lang/String" := A347.wr Wr351
  show Go p e below s Z [] _ _ _ (T348.setTop (mkF m 57 #[.val (.ref x), .val (.ref ba), .val (.int (0 : Int32)), .val (.int (3 : Int32)), .val .null, .val (.ref ta)] []))
  exact W350.retV (by decide) (by decide) hret (hb hby dc_jdk_42_method_149_code_57) ⟨rfl, ((((Keep.refl h0 [x]).ext X1).wr Wr344 (Or.inl (List.mem_of_getElem? (i := 0) rfl))).wr Wr351 (Or.inl (List.mem_of_getElem? (i := 0) rfl))), ta, k_ta, A354, F352, F353, ((A_ta.other Wr344 (Exa.ne E_ta (E_x.ext X1) (by decide))).other Wr351 (Exa.ne (E_ta.wr Wr344) A347 (by decide)))⟩
set_option maxRecDepth 65536 in
set_option maxHeartbeats 40000000 in
theorem c_s16_3 (l : Launch) (Z : State) (a0 : Array Value) (hw : ∀ d ∈ tables_1, d.before a0 Z = true) (hEL : EW Z a0 []) (h0 : Heap) (hE0 : Ext Z.heap h0) (x ba : Addr) (kb : ClassId) (c0 c1 c2 G1 : Int32) (E_x : Exa Z h0 x "java/lang/String") (FV : Fld Z h0 x "java/lang/String" "value" "[B" .null) (FC : Fld Z h0 x "java/lang/String" "coder" "B" (.int 0)) (z_x : Z.heap.size ≤ x) (SAD : Sta Z Z.heap "java/lang/StringUTF16" "$assertionsDisabled" "Z" (.int 1)) (SHI : Sta Z Z.heap "java/lang/StringUTF16" "HI_BYTE_SHIFT" "I" (.int 0)) (SLO : Sta Z Z.heap "java/lang/StringUTF16" "LO_BYTE_SHIFT" "I" (.int 8)) (SG1 : Sta Z Z.heap "java/lang/String" "COMPACT_STRINGS" "Z" (.int G1)) (hG : ¬ G1 = 0) (A_b : Arv Z h0 ba kb .char (3 : Int32) [(.int c0), (.int c1), (.int c2)] (.int (0 : Int32))) (r0 : ¬ c0 < 0 ∧ ¬ (65535 : Int32) < c0) (r1 : ¬ c1 < 0 ∧ ¬ (65535 : Int32) < c1) (r2 : ¬ c2 < 0 ∧ ¬ (65535 : Int32) < c2) (hbig : (255 : Int32) < c0 ∨ (255 : Int32) < c1 ∨ (255 : Int32) < c2) :
    Con l Z [] [x] (⟨"java/lang/String", "<init>", "([C)V"⟩ : MethodName) jdk_42_method_3_code 2 none [] ({ frames := 5, cells := 2, slots := 9, locals := 74 } : Room) #[(.ref x), (.ref ba)] h0 (fun v h' => v = none ∧ Keep h0 h' [x] ∧ ∃ ta kt, Exa Z h' x "java/lang/String" ∧ Fld Z h' x "java/lang/String" "value" "[B" (.ref ta) ∧ Fld Z h' x "java/lang/String" "coder" "B" (.int 1) ∧ Arv Z h' ta kt .byte (6 : Int32) [(.int (StrChars.lo8 c0)), (.int (StrChars.hi8 c0)), (.int (StrChars.lo8 c1)), (.int (StrChars.hi8 c1)), (.int (StrChars.lo8 c2)), (.int (StrChars.hi8 c2))] (.int (0 : Int32))) := by
  refine Con.mk (plainFor_of_name pn_1) hEL hE0 (allS E_x.lt all0) ?_
  intro p e s m below meth c T0 hby hml hret hnm W0
  rw [(show entryFrame m #[(.ref x), (.ref ba)] 2 = mkF m 0 #[.val (.ref x), .val (.ref ba)] [] from by first | (simp [entryFrame, mkF, argsToLocals, Value.category]; done) | rfl)]
  refine Go.by (fun t9_ q9_ => XS.aloadN W0.here W0.hx rfl (hb hby dc_jdk_42_method_3_code_0) rfl rfl (XS.aloadN W0.here W0.hx rfl (hb hby dc_jdk_42_method_3_code_1) rfl rfl (XS.iconst W0.here W0.hx rfl (hb hby dc_jdk_42_method_3_code_2) (XS.aloadN W0.here W0.hx rfl (hb hby dc_jdk_42_method_3_code_3) rfl rfl q9_)))) ?_
  show Go p e below s Z [] _ _ _ (T0.setTop (mkF m 4 #[.val (.ref x), .val (.ref ba)] [(.ref ba), (.int (0 : Int32)), (.ref ba), (.ref x)]))
  refine W0.alen A_b (hb hby dc_jdk_42_method_3_code_4) ?_
  show Go p e below s Z [] _ _ _ (T0.setTop (mkF m 5 #[.val (.ref x), .val (.ref ba)] [(.int (3 : Int32)), (.int (0 : Int32)), (.ref ba), (.ref x)]))
  refine Go.by (fun t9_ q9_ => XS.aconstNull W0.here W0.hx rfl (hb hby dc_jdk_42_method_3_code_5) q9_) ?_
  show Go p e below s Z [] _ _ _ (T0.setTop (mkF m 6 #[.val (.ref x), .val (.ref ba)] [.null, (.int (3 : Int32)), (.int (0 : Int32)), (.ref ba), (.ref x)]))
  refine W0.callI (y := (⟨"java/lang/String", "<init>", "([CIILjava/lang/Void;)V"⟩ : MethodName)) rfl (wd7 hw) (wd8 hw) (wd3 hw) (wd10 hw) (by decide) (a := x) (c_s4_3 l Z a0 hw hEL h0 hE0 x ba kb c0 c1 c2 G1 E_x FV FC z_x SAD SHI SLO SG1 hG A_b r0 r1 r2 hbig) (allS (List.mem_of_getElem? (i := 0) rfl) all0) (by decide) (by decide) (k' := 2) (n' := 9) rfl rfl (by decide) (by decide) (by rw [hml]; rfl) (argsL := [(.ref ba), (.int (0 : Int32)), (.int (3 : Int32)), .null]) (rest := []) (lenOf pd_7 rfl) rfl rfl (Wt := 0) (Nat.le_of_eq rfl) (hb hby dc_jdk_42_method_3_code_6) ?_
  intro v_ T355 h357 W356 hq_
  obtain ⟨rfl, K1, S1⟩ := hq_
  show Go p e below s Z [] _ _ _ (T355.setTop (mkF m 9 #[.val (.ref x), .val (.ref ba)] []))
  exact W356.retV (by decide) (by decide) hret (hb hby dc_jdk_42_method_3_code_9) ⟨rfl, K1, S1⟩
set_option maxRecDepth 65536 in
set_option maxHeartbeats 40000000 in
theorem c_nbl4 (l : Launch) (Z : State) (a0 : Array Value) (hw : ∀ d ∈ tables_1, d.before a0 Z = true) (hEL : EW Z a0 []) (h0 : Heap) (hE0 : Ext Z.heap h0)   :
    Con l Z [] [] (⟨"java/lang/StringUTF16", "newBytesLength", "(I)I"⟩ : MethodName) jdk_52_method_3_code 1 (some .int) [] ({ frames := 0, cells := 0, slots := 0, locals := 0 } : Room) #[(.int (4 : Int32))] h0 (fun v h' => v = (some (.int (8 : Int32))) ∧ h' = h0) := by
  refine Con.mk (plainFor_of_name pn_0) hEL hE0 (fun x hx => by cases hx) ?_
  intro p e s m below meth c T0 hby hml hret hnm W0
  rw [(show entryFrame m #[(.int (4 : Int32))] 1 = mkF m 0 #[.val (.int (4 : Int32))] [] from by first | (simp [entryFrame, mkF, argsToLocals, Value.category]; done) | rfl)]
  refine Go.by (fun t9_ q9_ => XS.iloadN W0.here W0.hx rfl (hb hby dc_jdk_52_method_3_code_0) rfl q9_) ?_
  show Go p e below s Z [] _ _ _ (T0.setTop (mkF m 1 #[.val (.int (4 : Int32))] [(.int (4 : Int32))]))
  refine Go.by (fun t9_ q9_ => XS.ifYes W0.here W0.hx rfl (pc0 := 1) (pc' := 12) rfl (hb hby dc_jdk_52_method_3_code_1) rfl ((if0 _ _).trans (flt (by decide)).2.1) (by decide) (by decide) q9_) ?_
  show Go p e below s Z [] _ _ _ (T0.setTop (mkF m 12 #[.val (.int (4 : Int32))] []))
  refine Go.by (fun t9_ q9_ => XS.iloadN W0.here W0.hx rfl (hb hby dc_jdk_52_method_3_code_12) rfl q9_) ?_
  show Go p e below s Z [] _ _ _ (T0.setTop (mkF m 13 #[.val (.int (4 : Int32))] [(.int (4 : Int32))]))
  refine W0.ldcI (wd88 hw) (hb hby dc_jdk_52_method_3_code_13) ?_
  show Go p e below s Z [] _ _ _ (T0.setTop (mkF m 15 #[.val (.int (4 : Int32))] [(.int (1073741823 : Int32)), (.int (4 : Int32))]))
  refine Go.by (fun t9_ q9_ => XS.icmpYes W0.here W0.hx rfl (pc0 := 15) (pc' := 55) rfl (hb hby dc_jdk_52_method_3_code_15) rfl (tlt (by decide)).1 (by decide) (by decide) q9_) ?_
  show Go p e below s Z [] _ _ _ (T0.setTop (mkF m 55 #[.val (.int (4 : Int32))] []))
  refine Go.by (fun t9_ q9_ => XS.iloadN W0.here W0.hx rfl (hb hby dc_jdk_52_method_3_code_55) rfl (XS.iconst W0.here W0.hx rfl (hb hby dc_jdk_52_method_3_code_56) (XS.ishl W0.here W0.hx rfl (hb hby dc_jdk_52_method_3_code_57) rfl q9_))) ?_
  show Go p e below s Z [] _ _ _ (T0.setTop (mkF m 58 #[.val (.int (4 : Int32))] [(.int ((4 : Int32) <<< ((1 : Int32) &&& 31)))]))
  rw [show ((4 : Int32) <<< ((1 : Int32) &&& 31)) = (8 : Int32) from by decide]
  show Go p e below s Z [] _ _ _ (T0.setTop (mkF m 58 #[.val (.int (4 : Int32))] [(.int (8 : Int32))]))
  exact W0.retI (by decide) (by decide) hret (hb hby dc_jdk_52_method_3_code_58) ⟨rfl, rfl⟩
set_option maxRecDepth 65536 in
set_option maxHeartbeats 40000000 in
theorem c_nbf4 (l : Launch) (Z : State) (a0 : Array Value) (hw : ∀ d ∈ tables_1, d.before a0 Z = true) (hEL : EW Z a0 []) (h0 : Heap) (hE0 : Ext Z.heap h0)   :
    Con l Z [] [] (⟨"java/lang/StringUTF16", "newBytesFor", "(I)[B"⟩ : MethodName) jdk_52_method_2_code 1 (some (.array .byte)) [] ({ frames := 1, cells := 1, slots := 8, locals := 12 } : Room) #[(.int (4 : Int32))] h0 (fun v h' => ∃ ta kt, v = some (.ref ta) ∧ Ext h0 h' ∧ Z.heap.size ≤ ta ∧ h0.size = ta ∧ Exa Z h' ta "[B" ∧ Arv Z h' ta kt .byte (8 : Int32) [(.int (0 : Int32)), (.int (0 : Int32)), (.int (0 : Int32)), (.int (0 : Int32)), (.int (0 : Int32)), (.int (0 : Int32)), (.int (0 : Int32)), (.int (0 : Int32))] (.int (0 : Int32))) := by
  refine Con.mk (plainFor_of_name pn_0) hEL hE0 (fun x hx => by cases hx) ?_
  intro p e s m below meth c T0 hby hml hret hnm W0
  rw [(show entryFrame m #[(.int (4 : Int32))] 1 = mkF m 0 #[.val (.int (4 : Int32))] [] from by first | (simp [entryFrame, mkF, argsToLocals, Value.category]; done) | rfl)]
  refine Go.by (fun t9_ q9_ => XS.iloadN W0.here W0.hx rfl (hb hby dc_jdk_52_method_2_code_0) rfl q9_) ?_
  show Go p e below s Z [] _ _ _ (T0.setTop (mkF m 1 #[.val (.int (4 : Int32))] [(.int (4 : Int32))]))
  refine W0.callSp (y := (⟨"java/lang/StringUTF16", "newBytesLength", "(I)I"⟩ : MethodName)) (wd85 hw) (wd86 hw) (wd17 hw) (wd87 hw) (by decide) (c_nbl4 l Z a0 hw hEL h0 hE0) all0 (by decide) (by decide) (k' := 0) (n' := 0) rfl rfl (by decide) (by decide) (by rw [hml]; rfl) (argsL := [(.int (4 : Int32))]) (rest := []) (lenOf pd_0 rfl) rfl rfl (Wt := 0) (Nat.le_of_eq rfl) (hb hby dc_jdk_52_method_2_code_1) ?_
  intro T358 W359
  show Go p e below s Z [] _ _ _ (T358.setTop (mkF m 4 #[.val (.int (4 : Int32))] [(.int (8 : Int32))]))
  refine W359.newp (aty := .byte) (wd19 hw) (hb hby dc_jdk_52_method_2_code_4) (by decide) (cap := 8) (by decide) (by decide) (k' := 1) (n' := 8) rfl rfl (by decide) (by decide) (ad := "[B") rfl ?_
  intro T360 h361 ta k_ta W362 E363 g_ta z_ta A_ta V_ta
  have V1_ta : Arv Z h361 ta k_ta .byte (8 : Int32) [(.int (0 : Int32)), (.int (0 : Int32)), (.int (0 : Int32)), (.int (0 : Int32)), (.int (0 : Int32)), (.int (0 : Int32)), (.int (0 : Int32)), (.int (0 : Int32))] (.int (0 : Int32)) := V_ta.pad (pad_rep [] (.int (0 : Int32)) 8)
  show Go p e below s Z [] _ _ _ (T360.setTop (mkF m 6 #[.val (.int (4 : Int32))] [(.ref ta)]))
  exact W362.retA (by decide) (by decide) hret rfl rfl (hb hby dc_jdk_52_method_2_code_6) ⟨ta, k_ta, rfl, E363, z_ta, g_ta, A_ta, V1_ta⟩
set_option maxRecDepth 65536 in
set_option maxHeartbeats 40000000 in
theorem c_put4_0 (l : Launch) (Z : State) (a0 : Array Value) (hw : ∀ d ∈ tables_1, d.before a0 Z = true) (hEL : EW Z a0 []) (h0 : Heap) (hE0 : Ext Z.heap h0) (ta : Addr) (k_ta : ClassId) (b0 b1 b2 b3 b4 b5 b6 b7 : Value) (cc : Int32) (SAD : Sta Z Z.heap "java/lang/StringUTF16" "$assertionsDisabled" "Z" (.int 1)) (SHI : Sta Z Z.heap "java/lang/StringUTF16" "HI_BYTE_SHIFT" "I" (.int 0)) (SLO : Sta Z Z.heap "java/lang/StringUTF16" "LO_BYTE_SHIFT" "I" (.int 8)) (A_t : Arv Z h0 ta k_ta .byte (8 : Int32) [b0, b1, b2, b3, b4, b5, b6, b7] (.int (0 : Int32))) (z_ta : Z.heap.size ≤ ta) :
    Con l Z [] [ta] (⟨"java/lang/StringUTF16", "putChar", "([BII)V"⟩ : MethodName) jdk_52_method_4_code 3 none [] ({ frames := 0, cells := 0, slots := 0, locals := 0 } : Room) #[(.ref ta), (.int (0 : Int32)), (.int cc)] h0 (fun v h' => v = none ∧ Keep h0 h' [ta] ∧ Arv Z h' ta k_ta .byte (8 : Int32) [(.int (StrChars.lo8 cc)), (.int (StrChars.hi8 cc)), b2, b3, b4, b5, b6, b7] (.int (0 : Int32))) := by
  refine Con.mk (plainFor_of_name pn_0) hEL hE0 (allS A_t.lt all0) ?_
  intro p e s m below meth c T0 hby hml hret hnm W0
  rw [(show entryFrame m #[(.ref ta), (.int (0 : Int32)), (.int cc)] 3 = mkF m 0 #[.val (.ref ta), .val (.int (0 : Int32)), .val (.int cc)] [] from by first | (simp [entryFrame, mkF, argsToLocals, Value.category]; done) | rfl)]
  refine W0.gets (host := "") (Or.inl (wd92 hw)) Via.refl (SAD.ext W0.old) (hb hby dc_jdk_52_method_4_code_0) ?_
  intro T364 W365
  show Go p e below s Z [] _ _ _ (T364.setTop (mkF m 3 #[.val (.ref ta), .val (.int (0 : Int32)), .val (.int cc)] [(.int (1 : Int32))]))
  refine Go.by (fun t9_ q9_ => XS.ifYes W365.here W365.hx rfl (pc0 := 3) (pc' := 28) rfl (hb hby dc_jdk_52_method_4_code_3) rfl ((if0 _ _).trans (feq (by decide)).2) (by decide) (by decide) q9_) ?_
  show Go p e below s Z [] _ _ _ (T364.setTop (mkF m 28 #[.val (.ref ta), .val (.int (0 : Int32)), .val (.int cc)] []))
  refine Go.by (fun t9_ q9_ => XS.iloadN W365.here W365.hx rfl (hb hby dc_jdk_52_method_4_code_28) rfl (XS.iconst W365.here W365.hx rfl (hb hby dc_jdk_52_method_4_code_29) (XS.ishl W365.here W365.hx rfl (hb hby dc_jdk_52_method_4_code_30) rfl (XS.istoreN W365.here W365.hx rfl (hb hby dc_jdk_52_method_4_code_31) rfl (l' := #[.val (.ref ta), .val (.int ((0 : Int32) <<< ((1 : Int32) &&& 31))), .val (.int cc)]) rfl q9_)))) ?_
  show Go p e below s Z [] _ _ _ (T364.setTop (mkF m 32 #[.val (.ref ta), .val (.int ((0 : Int32) <<< ((1 : Int32) &&& 31))), .val (.int cc)] []))
  rw [show ((0 : Int32) <<< ((1 : Int32) &&& 31)) = (0 : Int32) from by decide]
  show Go p e below s Z [] _ _ _ (T364.setTop (mkF m 32 #[.val (.ref ta), .val (.int (0 : Int32)), .val (.int cc)] []))
  refine Go.by (fun t9_ q9_ => XS.aloadN W365.here W365.hx rfl (hb hby dc_jdk_52_method_4_code_32) rfl rfl (XS.iloadN W365.here W365.hx rfl (hb hby dc_jdk_52_method_4_code_33) rfl (XS.iinc W365.here W365.hx rfl (hb hby dc_jdk_52_method_4_code_34) rfl (l' := #[.val (.ref ta), .val (.int ((0 : Int32) + (1 : Int32))), .val (.int cc)]) rfl q9_))) ?_
  show Go p e below s Z [] _ _ _ (T364.setTop (mkF m 37 #[.val (.ref ta), .val (.int ((0 : Int32) + (1 : Int32))), .val (.int cc)] [(.int (0 : Int32)), (.ref ta)]))
  show Go p e below s Z [] _ _ _ (T364.setTop (mkF m 37 #[.val (.ref ta), .val (.int (1 : Int32)), .val (.int cc)] [(.int (0 : Int32)), (.ref ta)]))
  refine Go.by (fun t9_ q9_ => XS.iloadN W365.here W365.hx rfl (hb hby dc_jdk_52_method_4_code_37) rfl q9_) ?_
  show Go p e below s Z [] _ _ _ (T364.setTop (mkF m 38 #[.val (.ref ta), .val (.int (1 : Int32)), .val (.int cc)] [(.int cc), (.int (0 : Int32)), (.ref ta)]))
  refine W365.gets (host := "") (Or.inl (wd93 hw)) Via.refl (SHI.ext W365.old) (hb hby dc_jdk_52_method_4_code_38) ?_
  intro T366 W367
  show Go p e below s Z [] _ _ _ (T366.setTop (mkF m 41 #[.val (.ref ta), .val (.int (1 : Int32)), .val (.int cc)] [(.int (0 : Int32)), (.int cc), (.int (0 : Int32)), (.ref ta)]))
  refine Go.by (fun t9_ q9_ => XS.ishr W367.here W367.hx rfl (hb hby dc_jdk_52_method_4_code_41) rfl (XS.i2b W367.here W367.hx rfl (hb hby dc_jdk_52_method_4_code_42) rfl q9_)) ?_
  show Go p e below s Z [] _ _ _ (T366.setTop (mkF m 43 #[.val (.ref ta), .val (.int (1 : Int32)), .val (.int cc)] [(.int ((cc >>> ((0 : Int32) &&& 31)).toInt8.toInt32)), (.int (0 : Int32)), (.ref ta)]))
  refine W367.bast A_t ⟨by decide, by decide⟩ (i := 0) rfl (by simp) (v' := (StrChars.lo8 cc)) (by rw [StrChars.shr0]; simp [nar, StrChars.lo8, lo8_lo8]) z_ta (List.mem_of_getElem? (i := 0) rfl) (hb hby dc_jdk_52_method_4_code_43) ?_
  intro T368 h369 W370 Wr371 V372_ta'
  have V372_ta : Arv Z h369 ta k_ta .byte (8 : Int32) [(.int (StrChars.lo8 cc)), b1, b2, b3, b4, b5, b6, b7] (.int (0 : Int32)) := V372_ta'
  show Go p e below s Z [] _ _ _ (T368.setTop (mkF m 44 #[.val (.ref ta), .val (.int (1 : Int32)), .val (.int cc)] []))
  refine Go.by (fun t9_ q9_ => XS.aloadN W370.here W370.hx rfl (hb hby dc_jdk_52_method_4_code_44) rfl rfl (XS.iloadN W370.here W370.hx rfl (hb hby dc_jdk_52_method_4_code_45) rfl (XS.iloadN W370.here W370.hx rfl (hb hby dc_jdk_52_method_4_code_46) rfl q9_))) ?_
  show Go p e below s Z [] _ _ _ (T368.setTop (mkF m 47 #[.val (.ref ta), .val (.int (1 : Int32)), .val (.int cc)] [(.int cc), (.int (1 : Int32)), (.ref ta)]))
  refine W370.gets (host := "") (Or.inl (wd94 hw)) Via.refl (SLO.ext W370.old) (hb hby dc_jdk_52_method_4_code_47) ?_
  intro T373 W374
  show Go p e below s Z [] _ _ _ (T373.setTop (mkF m 50 #[.val (.ref ta), .val (.int (1 : Int32)), .val (.int cc)] [(.int (8 : Int32)), (.int cc), (.int (1 : Int32)), (.ref ta)]))
  refine Go.by (fun t9_ q9_ => XS.ishr W374.here W374.hx rfl (hb hby dc_jdk_52_method_4_code_50) rfl (XS.i2b W374.here W374.hx rfl (hb hby dc_jdk_52_method_4_code_51) rfl q9_)) ?_
  show Go p e below s Z [] _ _ _ (T373.setTop (mkF m 52 #[.val (.ref ta), .val (.int (1 : Int32)), .val (.int cc)] [(.int ((cc >>> ((8 : Int32) &&& 31)).toInt8.toInt32)), (.int (1 : Int32)), (.ref ta)]))
  refine W374.bast V372_ta ⟨by decide, by decide⟩ (i := 1) rfl (by simp) (v' := (StrChars.hi8 cc)) (by simp [nar, StrChars.hi8, StrChars.lo8, lo8_lo8]) z_ta (List.mem_of_getElem? (i := 0) rfl) (hb hby dc_jdk_52_method_4_code_52) ?_
  intro T375 h376 W377 Wr378 V379_ta'
  have V379_ta : Arv Z h376 ta k_ta .byte (8 : Int32) [(.int (StrChars.lo8 cc)), (.int (StrChars.hi8 cc)), b2, b3, b4, b5, b6, b7] (.int (0 : Int32)) := V379_ta'
  show Go p e below s Z [] _ _ _ (T375.setTop (mkF m 53 #[.val (.ref ta), .val (.int (1 : Int32)), .val (.int cc)] []))
  exact W377.retV (by decide) (by decide) hret (hb hby dc_jdk_52_method_4_code_53) ⟨rfl, (((Keep.refl h0 [ta]).wr Wr371 (Or.inl (List.mem_of_getElem? (i := 0) rfl))).wr Wr378 (Or.inl (List.mem_of_getElem? (i := 0) rfl))), V379_ta⟩
set_option maxRecDepth 65536 in
set_option maxHeartbeats 40000000 in
theorem c_get4_0 (l : Launch) (Z : State) (a0 : Array Value) (hw : ∀ d ∈ tables_1, d.before a0 Z = true) (hEL : EW Z a0 []) (h0 : Heap) (hE0 : Ext Z.heap h0) (ta : Addr) (k_ta : ClassId) (vs : List Value) (uu vv cc : Int32) (SAD : Sta Z Z.heap "java/lang/StringUTF16" "$assertionsDisabled" "Z" (.int 1)) (SHI : Sta Z Z.heap "java/lang/StringUTF16" "HI_BYTE_SHIFT" "I" (.int 0)) (SLO : Sta Z Z.heap "java/lang/StringUTF16" "LO_BYTE_SHIFT" "I" (.int 8)) (A_t : Arv Z h0 ta k_ta .byte (8 : Int32) vs (.int (0 : Int32))) (hu : vs.getD 0 (.int (0 : Int32)) = .int uu) (hv : vs.getD 1 (.int (0 : Int32)) = .int vv) (hp : StrChars.pairCh uu vv = cc) (r_c : ¬ cc < 0 ∧ ¬ (65535 : Int32) < cc) :
    Con l Z [] [] (⟨"java/lang/StringUTF16", "getChar", "([BI)C"⟩ : MethodName) jdk_52_method_5_code 2 (some .char) [] ({ frames := 0, cells := 0, slots := 0, locals := 0 } : Room) #[(.ref ta), (.int (0 : Int32))] h0 (fun v h' => v = (some (.int cc)) ∧ h' = h0) := by
  refine Con.mk (plainFor_of_name pn_0) hEL hE0 (fun x hx => by cases hx) ?_
  intro p e s m below meth c T0 hby hml hret hnm W0
  rw [(show entryFrame m #[(.ref ta), (.int (0 : Int32))] 2 = mkF m 0 #[.val (.ref ta), .val (.int (0 : Int32))] [] from by first | (simp [entryFrame, mkF, argsToLocals, Value.category]; done) | rfl)]
  refine W0.gets (host := "") (Or.inl (wd92 hw)) Via.refl (SAD.ext W0.old) (hb hby dc_jdk_52_method_5_code_0) ?_
  intro T380 W381
  show Go p e below s Z [] _ _ _ (T380.setTop (mkF m 3 #[.val (.ref ta), .val (.int (0 : Int32))] [(.int (1 : Int32))]))
  refine Go.by (fun t9_ q9_ => XS.ifYes W381.here W381.hx rfl (pc0 := 3) (pc' := 28) rfl (hb hby dc_jdk_52_method_5_code_3) rfl ((if0 _ _).trans (feq (by decide)).2) (by decide) (by decide) q9_) ?_
  show Go p e below s Z [] _ _ _ (T380.setTop (mkF m 28 #[.val (.ref ta), .val (.int (0 : Int32))] []))
  refine Go.by (fun t9_ q9_ => XS.iloadN W381.here W381.hx rfl (hb hby dc_jdk_52_method_5_code_28) rfl (XS.iconst W381.here W381.hx rfl (hb hby dc_jdk_52_method_5_code_29) (XS.ishl W381.here W381.hx rfl (hb hby dc_jdk_52_method_5_code_30) rfl (XS.istoreN W381.here W381.hx rfl (hb hby dc_jdk_52_method_5_code_31) rfl (l' := #[.val (.ref ta), .val (.int ((0 : Int32) <<< ((1 : Int32) &&& 31)))]) rfl q9_)))) ?_
  show Go p e below s Z [] _ _ _ (T380.setTop (mkF m 32 #[.val (.ref ta), .val (.int ((0 : Int32) <<< ((1 : Int32) &&& 31)))] []))
  rw [show ((0 : Int32) <<< ((1 : Int32) &&& 31)) = (0 : Int32) from by decide]
  show Go p e below s Z [] _ _ _ (T380.setTop (mkF m 32 #[.val (.ref ta), .val (.int (0 : Int32))] []))
  refine Go.by (fun t9_ q9_ => XS.aloadN W381.here W381.hx rfl (hb hby dc_jdk_52_method_5_code_32) rfl rfl (XS.iloadN W381.here W381.hx rfl (hb hby dc_jdk_52_method_5_code_33) rfl (XS.iinc W381.here W381.hx rfl (hb hby dc_jdk_52_method_5_code_34) rfl (l' := #[.val (.ref ta), .val (.int ((0 : Int32) + (1 : Int32)))]) rfl q9_))) ?_
  show Go p e below s Z [] _ _ _ (T380.setTop (mkF m 37 #[.val (.ref ta), .val (.int ((0 : Int32) + (1 : Int32)))] [(.int (0 : Int32)), (.ref ta)]))
  show Go p e below s Z [] _ _ _ (T380.setTop (mkF m 37 #[.val (.ref ta), .val (.int (1 : Int32))] [(.int (0 : Int32)), (.ref ta)]))
  refine W381.bald A_t ⟨by decide, by decide⟩ (v := (.int uu)) hu (hb hby dc_jdk_52_method_5_code_37) ?_
  show Go p e below s Z [] _ _ _ (T380.setTop (mkF m 38 #[.val (.ref ta), .val (.int (1 : Int32))] [(.int uu)]))
  refine Go.by (fun t9_ q9_ => XS.sipush W381.here W381.hx rfl (hb hby dc_jdk_52_method_5_code_38) (XS.iand W381.here W381.hx rfl (hb hby dc_jdk_52_method_5_code_41) rfl q9_)) ?_
  show Go p e below s Z [] _ _ _ (T380.setTop (mkF m 42 #[.val (.ref ta), .val (.int (1 : Int32))] [(.int (uu &&& (255 : Int32)))]))
  refine W381.gets (host := "") (Or.inl (wd93 hw)) Via.refl (SHI.ext W381.old) (hb hby dc_jdk_52_method_5_code_42) ?_
  intro T382 W383
  show Go p e below s Z [] _ _ _ (T382.setTop (mkF m 45 #[.val (.ref ta), .val (.int (1 : Int32))] [(.int (0 : Int32)), (.int (uu &&& (255 : Int32)))]))
  refine Go.by (fun t9_ q9_ => XS.ishl W383.here W383.hx rfl (hb hby dc_jdk_52_method_5_code_45) rfl (XS.aloadN W383.here W383.hx rfl (hb hby dc_jdk_52_method_5_code_46) rfl rfl (XS.iloadN W383.here W383.hx rfl (hb hby dc_jdk_52_method_5_code_47) rfl q9_))) ?_
  show Go p e below s Z [] _ _ _ (T382.setTop (mkF m 48 #[.val (.ref ta), .val (.int (1 : Int32))] [(.int (1 : Int32)), (.ref ta), (.int ((uu &&& (255 : Int32)) <<< ((0 : Int32) &&& 31)))]))
  refine W383.bald A_t ⟨by decide, by decide⟩ (v := (.int vv)) hv (hb hby dc_jdk_52_method_5_code_48) ?_
  show Go p e below s Z [] _ _ _ (T382.setTop (mkF m 49 #[.val (.ref ta), .val (.int (1 : Int32))] [(.int vv), (.int ((uu &&& (255 : Int32)) <<< ((0 : Int32) &&& 31)))]))
  refine Go.by (fun t9_ q9_ => XS.sipush W383.here W383.hx rfl (hb hby dc_jdk_52_method_5_code_49) (XS.iand W383.here W383.hx rfl (hb hby dc_jdk_52_method_5_code_52) rfl q9_)) ?_
  show Go p e below s Z [] _ _ _ (T382.setTop (mkF m 53 #[.val (.ref ta), .val (.int (1 : Int32))] [(.int (vv &&& (255 : Int32))), (.int ((uu &&& (255 : Int32)) <<< ((0 : Int32) &&& 31)))]))
  refine W383.gets (host := "") (Or.inl (wd94 hw)) Via.refl (SLO.ext W383.old) (hb hby dc_jdk_52_method_5_code_53) ?_
  intro T384 W385
  show Go p e below s Z [] _ _ _ (T384.setTop (mkF m 56 #[.val (.ref ta), .val (.int (1 : Int32))] [(.int (8 : Int32)), (.int (vv &&& (255 : Int32))), (.int ((uu &&& (255 : Int32)) <<< ((0 : Int32) &&& 31)))]))
  refine Go.by (fun t9_ q9_ => XS.ishl W385.here W385.hx rfl (hb hby dc_jdk_52_method_5_code_56) rfl (XS.ior W385.here W385.hx rfl (hb hby dc_jdk_52_method_5_code_57) rfl (XS.i2c W385.here W385.hx rfl (hb hby dc_jdk_52_method_5_code_58) rfl q9_))) ?_
  show Go p e below s Z [] _ _ _ (T384.setTop (mkF m 59 #[.val (.ref ta), .val (.int (1 : Int32))] [(.int ((((uu &&& (255 : Int32)) <<< ((0 : Int32) &&& 31)) ||| ((vv &&& (255 : Int32)) <<< ((8 : Int32) &&& 31))).toUInt32.toUInt16.toUInt32.toInt32))]))
  exact W385.retN (z' := cc) (by decide) (by decide) hret (by simp) (hb hby dc_jdk_52_method_5_code_59) (by show nar .char (StrChars.pairCh uu vv) = cc; rw [hp]; exact nar_id r_c) ⟨rfl, rfl⟩
set_option maxRecDepth 65536 in
set_option maxHeartbeats 40000000 in
theorem c_put4_1 (l : Launch) (Z : State) (a0 : Array Value) (hw : ∀ d ∈ tables_1, d.before a0 Z = true) (hEL : EW Z a0 []) (h0 : Heap) (hE0 : Ext Z.heap h0) (ta : Addr) (k_ta : ClassId) (b0 b1 b2 b3 b4 b5 b6 b7 : Value) (cc : Int32) (SAD : Sta Z Z.heap "java/lang/StringUTF16" "$assertionsDisabled" "Z" (.int 1)) (SHI : Sta Z Z.heap "java/lang/StringUTF16" "HI_BYTE_SHIFT" "I" (.int 0)) (SLO : Sta Z Z.heap "java/lang/StringUTF16" "LO_BYTE_SHIFT" "I" (.int 8)) (A_t : Arv Z h0 ta k_ta .byte (8 : Int32) [b0, b1, b2, b3, b4, b5, b6, b7] (.int (0 : Int32))) (z_ta : Z.heap.size ≤ ta) :
    Con l Z [] [ta] (⟨"java/lang/StringUTF16", "putChar", "([BII)V"⟩ : MethodName) jdk_52_method_4_code 3 none [] ({ frames := 0, cells := 0, slots := 0, locals := 0 } : Room) #[(.ref ta), (.int (1 : Int32)), (.int cc)] h0 (fun v h' => v = none ∧ Keep h0 h' [ta] ∧ Arv Z h' ta k_ta .byte (8 : Int32) [b0, b1, (.int (StrChars.lo8 cc)), (.int (StrChars.hi8 cc)), b4, b5, b6, b7] (.int (0 : Int32))) := by
  refine Con.mk (plainFor_of_name pn_0) hEL hE0 (allS A_t.lt all0) ?_
  intro p e s m below meth c T0 hby hml hret hnm W0
  rw [(show entryFrame m #[(.ref ta), (.int (1 : Int32)), (.int cc)] 3 = mkF m 0 #[.val (.ref ta), .val (.int (1 : Int32)), .val (.int cc)] [] from by first | (simp [entryFrame, mkF, argsToLocals, Value.category]; done) | rfl)]
  refine W0.gets (host := "") (Or.inl (wd92 hw)) Via.refl (SAD.ext W0.old) (hb hby dc_jdk_52_method_4_code_0) ?_
  intro T386 W387
  show Go p e below s Z [] _ _ _ (T386.setTop (mkF m 3 #[.val (.ref ta), .val (.int (1 : Int32)), .val (.int cc)] [(.int (1 : Int32))]))
  refine Go.by (fun t9_ q9_ => XS.ifYes W387.here W387.hx rfl (pc0 := 3) (pc' := 28) rfl (hb hby dc_jdk_52_method_4_code_3) rfl ((if0 _ _).trans (feq (by decide)).2) (by decide) (by decide) q9_) ?_
  show Go p e below s Z [] _ _ _ (T386.setTop (mkF m 28 #[.val (.ref ta), .val (.int (1 : Int32)), .val (.int cc)] []))
  refine Go.by (fun t9_ q9_ => XS.iloadN W387.here W387.hx rfl (hb hby dc_jdk_52_method_4_code_28) rfl (XS.iconst W387.here W387.hx rfl (hb hby dc_jdk_52_method_4_code_29) (XS.ishl W387.here W387.hx rfl (hb hby dc_jdk_52_method_4_code_30) rfl (XS.istoreN W387.here W387.hx rfl (hb hby dc_jdk_52_method_4_code_31) rfl (l' := #[.val (.ref ta), .val (.int ((1 : Int32) <<< ((1 : Int32) &&& 31))), .val (.int cc)]) rfl q9_)))) ?_
  show Go p e below s Z [] _ _ _ (T386.setTop (mkF m 32 #[.val (.ref ta), .val (.int ((1 : Int32) <<< ((1 : Int32) &&& 31))), .val (.int cc)] []))
  rw [show ((1 : Int32) <<< ((1 : Int32) &&& 31)) = (2 : Int32) from by decide]
  show Go p e below s Z [] _ _ _ (T386.setTop (mkF m 32 #[.val (.ref ta), .val (.int (2 : Int32)), .val (.int cc)] []))
  refine Go.by (fun t9_ q9_ => XS.aloadN W387.here W387.hx rfl (hb hby dc_jdk_52_method_4_code_32) rfl rfl (XS.iloadN W387.here W387.hx rfl (hb hby dc_jdk_52_method_4_code_33) rfl (XS.iinc W387.here W387.hx rfl (hb hby dc_jdk_52_method_4_code_34) rfl (l' := #[.val (.ref ta), .val (.int ((2 : Int32) + (1 : Int32))), .val (.int cc)]) rfl q9_))) ?_
  show Go p e below s Z [] _ _ _ (T386.setTop (mkF m 37 #[.val (.ref ta), .val (.int ((2 : Int32) + (1 : Int32))), .val (.int cc)] [(.int (2 : Int32)), (.ref ta)]))
  show Go p e below s Z [] _ _ _ (T386.setTop (mkF m 37 #[.val (.ref ta), .val (.int (3 : Int32)), .val (.int cc)] [(.int (2 : Int32)), (.ref ta)]))
  refine Go.by (fun t9_ q9_ => XS.iloadN W387.here W387.hx rfl (hb hby dc_jdk_52_method_4_code_37) rfl q9_) ?_
  show Go p e below s Z [] _ _ _ (T386.setTop (mkF m 38 #[.val (.ref ta), .val (.int (3 : Int32)), .val (.int cc)] [(.int cc), (.int (2 : Int32)), (.ref ta)]))
  refine W387.gets (host := "") (Or.inl (wd93 hw)) Via.refl (SHI.ext W387.old) (hb hby dc_jdk_52_method_4_code_38) ?_
  intro T388 W389
  show Go p e below s Z [] _ _ _ (T388.setTop (mkF m 41 #[.val (.ref ta), .val (.int (3 : Int32)), .val (.int cc)] [(.int (0 : Int32)), (.int cc), (.int (2 : Int32)), (.ref ta)]))
  refine Go.by (fun t9_ q9_ => XS.ishr W389.here W389.hx rfl (hb hby dc_jdk_52_method_4_code_41) rfl (XS.i2b W389.here W389.hx rfl (hb hby dc_jdk_52_method_4_code_42) rfl q9_)) ?_
  show Go p e below s Z [] _ _ _ (T388.setTop (mkF m 43 #[.val (.ref ta), .val (.int (3 : Int32)), .val (.int cc)] [(.int ((cc >>> ((0 : Int32) &&& 31)).toInt8.toInt32)), (.int (2 : Int32)), (.ref ta)]))
  refine W389.bast A_t ⟨by decide, by decide⟩ (i := 2) rfl (by simp) (v' := (StrChars.lo8 cc)) (by rw [StrChars.shr0]; simp [nar, StrChars.lo8, lo8_lo8]) z_ta (List.mem_of_getElem? (i := 0) rfl) (hb hby dc_jdk_52_method_4_code_43) ?_
  intro T390 h391 W392 Wr393 V394_ta'
  have V394_ta : Arv Z h391 ta k_ta .byte (8 : Int32) [b0, b1, (.int (StrChars.lo8 cc)), b3, b4, b5, b6, b7] (.int (0 : Int32)) := V394_ta'
  show Go p e below s Z [] _ _ _ (T390.setTop (mkF m 44 #[.val (.ref ta), .val (.int (3 : Int32)), .val (.int cc)] []))
  refine Go.by (fun t9_ q9_ => XS.aloadN W392.here W392.hx rfl (hb hby dc_jdk_52_method_4_code_44) rfl rfl (XS.iloadN W392.here W392.hx rfl (hb hby dc_jdk_52_method_4_code_45) rfl (XS.iloadN W392.here W392.hx rfl (hb hby dc_jdk_52_method_4_code_46) rfl q9_))) ?_
  show Go p e below s Z [] _ _ _ (T390.setTop (mkF m 47 #[.val (.ref ta), .val (.int (3 : Int32)), .val (.int cc)] [(.int cc), (.int (3 : Int32)), (.ref ta)]))
  refine W392.gets (host := "") (Or.inl (wd94 hw)) Via.refl (SLO.ext W392.old) (hb hby dc_jdk_52_method_4_code_47) ?_
  intro T395 W396
  show Go p e below s Z [] _ _ _ (T395.setTop (mkF m 50 #[.val (.ref ta), .val (.int (3 : Int32)), .val (.int cc)] [(.int (8 : Int32)), (.int cc), (.int (3 : Int32)), (.ref ta)]))
  refine Go.by (fun t9_ q9_ => XS.ishr W396.here W396.hx rfl (hb hby dc_jdk_52_method_4_code_50) rfl (XS.i2b W396.here W396.hx rfl (hb hby dc_jdk_52_method_4_code_51) rfl q9_)) ?_
  show Go p e below s Z [] _ _ _ (T395.setTop (mkF m 52 #[.val (.ref ta), .val (.int (3 : Int32)), .val (.int cc)] [(.int ((cc >>> ((8 : Int32) &&& 31)).toInt8.toInt32)), (.int (3 : Int32)), (.ref ta)]))
  refine W396.bast V394_ta ⟨by decide, by decide⟩ (i := 3) rfl (by simp) (v' := (StrChars.hi8 cc)) (by simp [nar, StrChars.hi8, StrChars.lo8, lo8_lo8]) z_ta (List.mem_of_getElem? (i := 0) rfl) (hb hby dc_jdk_52_method_4_code_52) ?_
  intro T397 h398 W399 Wr400 V401_ta'
  have V401_ta : Arv Z h398 ta k_ta .byte (8 : Int32) [b0, b1, (.int (StrChars.lo8 cc)), (.int (StrChars.hi8 cc)), b4, b5, b6, b7] (.int (0 : Int32)) := V401_ta'
  show Go p e below s Z [] _ _ _ (T397.setTop (mkF m 53 #[.val (.ref ta), .val (.int (3 : Int32)), .val (.int cc)] []))
  exact W399.retV (by decide) (by decide) hret (hb hby dc_jdk_52_method_4_code_53) ⟨rfl, (((Keep.refl h0 [ta]).wr Wr393 (Or.inl (List.mem_of_getElem? (i := 0) rfl))).wr Wr400 (Or.inl (List.mem_of_getElem? (i := 0) rfl))), V401_ta⟩
set_option maxRecDepth 65536 in
set_option maxHeartbeats 40000000 in
theorem c_get4_1 (l : Launch) (Z : State) (a0 : Array Value) (hw : ∀ d ∈ tables_1, d.before a0 Z = true) (hEL : EW Z a0 []) (h0 : Heap) (hE0 : Ext Z.heap h0) (ta : Addr) (k_ta : ClassId) (vs : List Value) (uu vv cc : Int32) (SAD : Sta Z Z.heap "java/lang/StringUTF16" "$assertionsDisabled" "Z" (.int 1)) (SHI : Sta Z Z.heap "java/lang/StringUTF16" "HI_BYTE_SHIFT" "I" (.int 0)) (SLO : Sta Z Z.heap "java/lang/StringUTF16" "LO_BYTE_SHIFT" "I" (.int 8)) (A_t : Arv Z h0 ta k_ta .byte (8 : Int32) vs (.int (0 : Int32))) (hu : vs.getD 2 (.int (0 : Int32)) = .int uu) (hv : vs.getD 3 (.int (0 : Int32)) = .int vv) (hp : StrChars.pairCh uu vv = cc) (r_c : ¬ cc < 0 ∧ ¬ (65535 : Int32) < cc) :
    Con l Z [] [] (⟨"java/lang/StringUTF16", "getChar", "([BI)C"⟩ : MethodName) jdk_52_method_5_code 2 (some .char) [] ({ frames := 0, cells := 0, slots := 0, locals := 0 } : Room) #[(.ref ta), (.int (1 : Int32))] h0 (fun v h' => v = (some (.int cc)) ∧ h' = h0) := by
  refine Con.mk (plainFor_of_name pn_0) hEL hE0 (fun x hx => by cases hx) ?_
  intro p e s m below meth c T0 hby hml hret hnm W0
  rw [(show entryFrame m #[(.ref ta), (.int (1 : Int32))] 2 = mkF m 0 #[.val (.ref ta), .val (.int (1 : Int32))] [] from by first | (simp [entryFrame, mkF, argsToLocals, Value.category]; done) | rfl)]
  refine W0.gets (host := "") (Or.inl (wd92 hw)) Via.refl (SAD.ext W0.old) (hb hby dc_jdk_52_method_5_code_0) ?_
  intro T402 W403
  show Go p e below s Z [] _ _ _ (T402.setTop (mkF m 3 #[.val (.ref ta), .val (.int (1 : Int32))] [(.int (1 : Int32))]))
  refine Go.by (fun t9_ q9_ => XS.ifYes W403.here W403.hx rfl (pc0 := 3) (pc' := 28) rfl (hb hby dc_jdk_52_method_5_code_3) rfl ((if0 _ _).trans (feq (by decide)).2) (by decide) (by decide) q9_) ?_
  show Go p e below s Z [] _ _ _ (T402.setTop (mkF m 28 #[.val (.ref ta), .val (.int (1 : Int32))] []))
  refine Go.by (fun t9_ q9_ => XS.iloadN W403.here W403.hx rfl (hb hby dc_jdk_52_method_5_code_28) rfl (XS.iconst W403.here W403.hx rfl (hb hby dc_jdk_52_method_5_code_29) (XS.ishl W403.here W403.hx rfl (hb hby dc_jdk_52_method_5_code_30) rfl (XS.istoreN W403.here W403.hx rfl (hb hby dc_jdk_52_method_5_code_31) rfl (l' := #[.val (.ref ta), .val (.int ((1 : Int32) <<< ((1 : Int32) &&& 31)))]) rfl q9_)))) ?_
  show Go p e below s Z [] _ _ _ (T402.setTop (mkF m 32 #[.val (.ref ta), .val (.int ((1 : Int32) <<< ((1 : Int32) &&& 31)))] []))
  rw [show ((1 : Int32) <<< ((1 : Int32) &&& 31)) = (2 : Int32) from by decide]
  show Go p e below s Z [] _ _ _ (T402.setTop (mkF m 32 #[.val (.ref ta), .val (.int (2 : Int32))] []))
  refine Go.by (fun t9_ q9_ => XS.aloadN W403.here W403.hx rfl (hb hby dc_jdk_52_method_5_code_32) rfl rfl (XS.iloadN W403.here W403.hx rfl (hb hby dc_jdk_52_method_5_code_33) rfl (XS.iinc W403.here W403.hx rfl (hb hby dc_jdk_52_method_5_code_34) rfl (l' := #[.val (.ref ta), .val (.int ((2 : Int32) + (1 : Int32)))]) rfl q9_))) ?_
  show Go p e below s Z [] _ _ _ (T402.setTop (mkF m 37 #[.val (.ref ta), .val (.int ((2 : Int32) + (1 : Int32)))] [(.int (2 : Int32)), (.ref ta)]))
  show Go p e below s Z [] _ _ _ (T402.setTop (mkF m 37 #[.val (.ref ta), .val (.int (3 : Int32))] [(.int (2 : Int32)), (.ref ta)]))
  refine W403.bald A_t ⟨by decide, by decide⟩ (v := (.int uu)) hu (hb hby dc_jdk_52_method_5_code_37) ?_
  show Go p e below s Z [] _ _ _ (T402.setTop (mkF m 38 #[.val (.ref ta), .val (.int (3 : Int32))] [(.int uu)]))
  refine Go.by (fun t9_ q9_ => XS.sipush W403.here W403.hx rfl (hb hby dc_jdk_52_method_5_code_38) (XS.iand W403.here W403.hx rfl (hb hby dc_jdk_52_method_5_code_41) rfl q9_)) ?_
  show Go p e below s Z [] _ _ _ (T402.setTop (mkF m 42 #[.val (.ref ta), .val (.int (3 : Int32))] [(.int (uu &&& (255 : Int32)))]))
  refine W403.gets (host := "") (Or.inl (wd93 hw)) Via.refl (SHI.ext W403.old) (hb hby dc_jdk_52_method_5_code_42) ?_
  intro T404 W405
  show Go p e below s Z [] _ _ _ (T404.setTop (mkF m 45 #[.val (.ref ta), .val (.int (3 : Int32))] [(.int (0 : Int32)), (.int (uu &&& (255 : Int32)))]))
  refine Go.by (fun t9_ q9_ => XS.ishl W405.here W405.hx rfl (hb hby dc_jdk_52_method_5_code_45) rfl (XS.aloadN W405.here W405.hx rfl (hb hby dc_jdk_52_method_5_code_46) rfl rfl (XS.iloadN W405.here W405.hx rfl (hb hby dc_jdk_52_method_5_code_47) rfl q9_))) ?_
  show Go p e below s Z [] _ _ _ (T404.setTop (mkF m 48 #[.val (.ref ta), .val (.int (3 : Int32))] [(.int (3 : Int32)), (.ref ta), (.int ((uu &&& (255 : Int32)) <<< ((0 : Int32) &&& 31)))]))
  refine W405.bald A_t ⟨by decide, by decide⟩ (v := (.int vv)) hv (hb hby dc_jdk_52_method_5_code_48) ?_
  show Go p e below s Z [] _ _ _ (T404.setTop (mkF m 49 #[.val (.ref ta), .val (.int (3 : Int32))] [(.int vv), (.int ((uu &&& (255 : Int32)) <<< ((0 : Int32) &&& 31)))]))
  refine Go.by (fun t9_ q9_ => XS.sipush W405.here W405.hx rfl (hb hby dc_jdk_52_method_5_code_49) (XS.iand W405.here W405.hx rfl (hb hby dc_jdk_52_method_5_code_52) rfl q9_)) ?_
  show Go p e below s Z [] _ _ _ (T404.setTop (mkF m 53 #[.val (.ref ta), .val (.int (3 : Int32))] [(.int (vv &&& (255 : Int32))), (.int ((uu &&& (255 : Int32)) <<< ((0 : Int32) &&& 31)))]))
  refine W405.gets (host := "") (Or.inl (wd94 hw)) Via.refl (SLO.ext W405.old) (hb hby dc_jdk_52_method_5_code_53) ?_
  intro T406 W407
  show Go p e below s Z [] _ _ _ (T406.setTop (mkF m 56 #[.val (.ref ta), .val (.int (3 : Int32))] [(.int (8 : Int32)), (.int (vv &&& (255 : Int32))), (.int ((uu &&& (255 : Int32)) <<< ((0 : Int32) &&& 31)))]))
  refine Go.by (fun t9_ q9_ => XS.ishl W407.here W407.hx rfl (hb hby dc_jdk_52_method_5_code_56) rfl (XS.ior W407.here W407.hx rfl (hb hby dc_jdk_52_method_5_code_57) rfl (XS.i2c W407.here W407.hx rfl (hb hby dc_jdk_52_method_5_code_58) rfl q9_))) ?_
  show Go p e below s Z [] _ _ _ (T406.setTop (mkF m 59 #[.val (.ref ta), .val (.int (3 : Int32))] [(.int ((((uu &&& (255 : Int32)) <<< ((0 : Int32) &&& 31)) ||| ((vv &&& (255 : Int32)) <<< ((8 : Int32) &&& 31))).toUInt32.toUInt16.toUInt32.toInt32))]))
  exact W407.retN (z' := cc) (by decide) (by decide) hret (by simp) (hb hby dc_jdk_52_method_5_code_59) (by show nar .char (StrChars.pairCh uu vv) = cc; rw [hp]; exact nar_id r_c) ⟨rfl, rfl⟩
set_option maxRecDepth 65536 in
set_option maxHeartbeats 40000000 in
theorem c_put4_2 (l : Launch) (Z : State) (a0 : Array Value) (hw : ∀ d ∈ tables_1, d.before a0 Z = true) (hEL : EW Z a0 []) (h0 : Heap) (hE0 : Ext Z.heap h0) (ta : Addr) (k_ta : ClassId) (b0 b1 b2 b3 b4 b5 b6 b7 : Value) (cc : Int32) (SAD : Sta Z Z.heap "java/lang/StringUTF16" "$assertionsDisabled" "Z" (.int 1)) (SHI : Sta Z Z.heap "java/lang/StringUTF16" "HI_BYTE_SHIFT" "I" (.int 0)) (SLO : Sta Z Z.heap "java/lang/StringUTF16" "LO_BYTE_SHIFT" "I" (.int 8)) (A_t : Arv Z h0 ta k_ta .byte (8 : Int32) [b0, b1, b2, b3, b4, b5, b6, b7] (.int (0 : Int32))) (z_ta : Z.heap.size ≤ ta) :
    Con l Z [] [ta] (⟨"java/lang/StringUTF16", "putChar", "([BII)V"⟩ : MethodName) jdk_52_method_4_code 3 none [] ({ frames := 0, cells := 0, slots := 0, locals := 0 } : Room) #[(.ref ta), (.int (2 : Int32)), (.int cc)] h0 (fun v h' => v = none ∧ Keep h0 h' [ta] ∧ Arv Z h' ta k_ta .byte (8 : Int32) [b0, b1, b2, b3, (.int (StrChars.lo8 cc)), (.int (StrChars.hi8 cc)), b6, b7] (.int (0 : Int32))) := by
  refine Con.mk (plainFor_of_name pn_0) hEL hE0 (allS A_t.lt all0) ?_
  intro p e s m below meth c T0 hby hml hret hnm W0
  rw [(show entryFrame m #[(.ref ta), (.int (2 : Int32)), (.int cc)] 3 = mkF m 0 #[.val (.ref ta), .val (.int (2 : Int32)), .val (.int cc)] [] from by first | (simp [entryFrame, mkF, argsToLocals, Value.category]; done) | rfl)]
  refine W0.gets (host := "") (Or.inl (wd92 hw)) Via.refl (SAD.ext W0.old) (hb hby dc_jdk_52_method_4_code_0) ?_
  intro T408 W409
  show Go p e below s Z [] _ _ _ (T408.setTop (mkF m 3 #[.val (.ref ta), .val (.int (2 : Int32)), .val (.int cc)] [(.int (1 : Int32))]))
  refine Go.by (fun t9_ q9_ => XS.ifYes W409.here W409.hx rfl (pc0 := 3) (pc' := 28) rfl (hb hby dc_jdk_52_method_4_code_3) rfl ((if0 _ _).trans (feq (by decide)).2) (by decide) (by decide) q9_) ?_
  show Go p e below s Z [] _ _ _ (T408.setTop (mkF m 28 #[.val (.ref ta), .val (.int (2 : Int32)), .val (.int cc)] []))
  refine Go.by (fun t9_ q9_ => XS.iloadN W409.here W409.hx rfl (hb hby dc_jdk_52_method_4_code_28) rfl (XS.iconst W409.here W409.hx rfl (hb hby dc_jdk_52_method_4_code_29) (XS.ishl W409.here W409.hx rfl (hb hby dc_jdk_52_method_4_code_30) rfl (XS.istoreN W409.here W409.hx rfl (hb hby dc_jdk_52_method_4_code_31) rfl (l' := #[.val (.ref ta), .val (.int ((2 : Int32) <<< ((1 : Int32) &&& 31))), .val (.int cc)]) rfl q9_)))) ?_
  show Go p e below s Z [] _ _ _ (T408.setTop (mkF m 32 #[.val (.ref ta), .val (.int ((2 : Int32) <<< ((1 : Int32) &&& 31))), .val (.int cc)] []))
  rw [show ((2 : Int32) <<< ((1 : Int32) &&& 31)) = (4 : Int32) from by decide]
  show Go p e below s Z [] _ _ _ (T408.setTop (mkF m 32 #[.val (.ref ta), .val (.int (4 : Int32)), .val (.int cc)] []))
  refine Go.by (fun t9_ q9_ => XS.aloadN W409.here W409.hx rfl (hb hby dc_jdk_52_method_4_code_32) rfl rfl (XS.iloadN W409.here W409.hx rfl (hb hby dc_jdk_52_method_4_code_33) rfl (XS.iinc W409.here W409.hx rfl (hb hby dc_jdk_52_method_4_code_34) rfl (l' := #[.val (.ref ta), .val (.int ((4 : Int32) + (1 : Int32))), .val (.int cc)]) rfl q9_))) ?_
  show Go p e below s Z [] _ _ _ (T408.setTop (mkF m 37 #[.val (.ref ta), .val (.int ((4 : Int32) + (1 : Int32))), .val (.int cc)] [(.int (4 : Int32)), (.ref ta)]))
  show Go p e below s Z [] _ _ _ (T408.setTop (mkF m 37 #[.val (.ref ta), .val (.int (5 : Int32)), .val (.int cc)] [(.int (4 : Int32)), (.ref ta)]))
  refine Go.by (fun t9_ q9_ => XS.iloadN W409.here W409.hx rfl (hb hby dc_jdk_52_method_4_code_37) rfl q9_) ?_
  show Go p e below s Z [] _ _ _ (T408.setTop (mkF m 38 #[.val (.ref ta), .val (.int (5 : Int32)), .val (.int cc)] [(.int cc), (.int (4 : Int32)), (.ref ta)]))
  refine W409.gets (host := "") (Or.inl (wd93 hw)) Via.refl (SHI.ext W409.old) (hb hby dc_jdk_52_method_4_code_38) ?_
  intro T410 W411
  show Go p e below s Z [] _ _ _ (T410.setTop (mkF m 41 #[.val (.ref ta), .val (.int (5 : Int32)), .val (.int cc)] [(.int (0 : Int32)), (.int cc), (.int (4 : Int32)), (.ref ta)]))
  refine Go.by (fun t9_ q9_ => XS.ishr W411.here W411.hx rfl (hb hby dc_jdk_52_method_4_code_41) rfl (XS.i2b W411.here W411.hx rfl (hb hby dc_jdk_52_method_4_code_42) rfl q9_)) ?_
  show Go p e below s Z [] _ _ _ (T410.setTop (mkF m 43 #[.val (.ref ta), .val (.int (5 : Int32)), .val (.int cc)] [(.int ((cc >>> ((0 : Int32) &&& 31)).toInt8.toInt32)), (.int (4 : Int32)), (.ref ta)]))
  refine W411.bast A_t ⟨by decide, by decide⟩ (i := 4) rfl (by simp) (v' := (StrChars.lo8 cc)) (by rw [StrChars.shr0]; simp [nar, StrChars.lo8, lo8_lo8]) z_ta (List.mem_of_getElem? (i := 0) rfl) (hb hby dc_jdk_52_method_4_code_43) ?_
  intro T412 h413 W414 Wr415 V416_ta'
  have V416_ta : Arv Z h413 ta k_ta .byte (8 : Int32) [b0, b1, b2, b3, (.int (StrChars.lo8 cc)), b5, b6, b7] (.int (0 : Int32)) := V416_ta'
  show Go p e below s Z [] _ _ _ (T412.setTop (mkF m 44 #[.val (.ref ta), .val (.int (5 : Int32)), .val (.int cc)] []))
  refine Go.by (fun t9_ q9_ => XS.aloadN W414.here W414.hx rfl (hb hby dc_jdk_52_method_4_code_44) rfl rfl (XS.iloadN W414.here W414.hx rfl (hb hby dc_jdk_52_method_4_code_45) rfl (XS.iloadN W414.here W414.hx rfl (hb hby dc_jdk_52_method_4_code_46) rfl q9_))) ?_
  show Go p e below s Z [] _ _ _ (T412.setTop (mkF m 47 #[.val (.ref ta), .val (.int (5 : Int32)), .val (.int cc)] [(.int cc), (.int (5 : Int32)), (.ref ta)]))
  refine W414.gets (host := "") (Or.inl (wd94 hw)) Via.refl (SLO.ext W414.old) (hb hby dc_jdk_52_method_4_code_47) ?_
  intro T417 W418
  show Go p e below s Z [] _ _ _ (T417.setTop (mkF m 50 #[.val (.ref ta), .val (.int (5 : Int32)), .val (.int cc)] [(.int (8 : Int32)), (.int cc), (.int (5 : Int32)), (.ref ta)]))
  refine Go.by (fun t9_ q9_ => XS.ishr W418.here W418.hx rfl (hb hby dc_jdk_52_method_4_code_50) rfl (XS.i2b W418.here W418.hx rfl (hb hby dc_jdk_52_method_4_code_51) rfl q9_)) ?_
  show Go p e below s Z [] _ _ _ (T417.setTop (mkF m 52 #[.val (.ref ta), .val (.int (5 : Int32)), .val (.int cc)] [(.int ((cc >>> ((8 : Int32) &&& 31)).toInt8.toInt32)), (.int (5 : Int32)), (.ref ta)]))
  refine W418.bast V416_ta ⟨by decide, by decide⟩ (i := 5) rfl (by simp) (v' := (StrChars.hi8 cc)) (by simp [nar, StrChars.hi8, StrChars.lo8, lo8_lo8]) z_ta (List.mem_of_getElem? (i := 0) rfl) (hb hby dc_jdk_52_method_4_code_52) ?_
  intro T419 h420 W421 Wr422 V423_ta'
  have V423_ta : Arv Z h420 ta k_ta .byte (8 : Int32) [b0, b1, b2, b3, (.int (StrChars.lo8 cc)), (.int (StrChars.hi8 cc)), b6, b7] (.int (0 : Int32)) := V423_ta'
  show Go p e below s Z [] _ _ _ (T419.setTop (mkF m 53 #[.val (.ref ta), .val (.int (5 : Int32)), .val (.int cc)] []))
  exact W421.retV (by decide) (by decide) hret (hb hby dc_jdk_52_method_4_code_53) ⟨rfl, (((Keep.refl h0 [ta]).wr Wr415 (Or.inl (List.mem_of_getElem? (i := 0) rfl))).wr Wr422 (Or.inl (List.mem_of_getElem? (i := 0) rfl))), V423_ta⟩
set_option maxRecDepth 65536 in
set_option maxHeartbeats 40000000 in
theorem c_get4_2 (l : Launch) (Z : State) (a0 : Array Value) (hw : ∀ d ∈ tables_1, d.before a0 Z = true) (hEL : EW Z a0 []) (h0 : Heap) (hE0 : Ext Z.heap h0) (ta : Addr) (k_ta : ClassId) (vs : List Value) (uu vv cc : Int32) (SAD : Sta Z Z.heap "java/lang/StringUTF16" "$assertionsDisabled" "Z" (.int 1)) (SHI : Sta Z Z.heap "java/lang/StringUTF16" "HI_BYTE_SHIFT" "I" (.int 0)) (SLO : Sta Z Z.heap "java/lang/StringUTF16" "LO_BYTE_SHIFT" "I" (.int 8)) (A_t : Arv Z h0 ta k_ta .byte (8 : Int32) vs (.int (0 : Int32))) (hu : vs.getD 4 (.int (0 : Int32)) = .int uu) (hv : vs.getD 5 (.int (0 : Int32)) = .int vv) (hp : StrChars.pairCh uu vv = cc) (r_c : ¬ cc < 0 ∧ ¬ (65535 : Int32) < cc) :
    Con l Z [] [] (⟨"java/lang/StringUTF16", "getChar", "([BI)C"⟩ : MethodName) jdk_52_method_5_code 2 (some .char) [] ({ frames := 0, cells := 0, slots := 0, locals := 0 } : Room) #[(.ref ta), (.int (2 : Int32))] h0 (fun v h' => v = (some (.int cc)) ∧ h' = h0) := by
  refine Con.mk (plainFor_of_name pn_0) hEL hE0 (fun x hx => by cases hx) ?_
  intro p e s m below meth c T0 hby hml hret hnm W0
  rw [(show entryFrame m #[(.ref ta), (.int (2 : Int32))] 2 = mkF m 0 #[.val (.ref ta), .val (.int (2 : Int32))] [] from by first | (simp [entryFrame, mkF, argsToLocals, Value.category]; done) | rfl)]
  refine W0.gets (host := "") (Or.inl (wd92 hw)) Via.refl (SAD.ext W0.old) (hb hby dc_jdk_52_method_5_code_0) ?_
  intro T424 W425
  show Go p e below s Z [] _ _ _ (T424.setTop (mkF m 3 #[.val (.ref ta), .val (.int (2 : Int32))] [(.int (1 : Int32))]))
  refine Go.by (fun t9_ q9_ => XS.ifYes W425.here W425.hx rfl (pc0 := 3) (pc' := 28) rfl (hb hby dc_jdk_52_method_5_code_3) rfl ((if0 _ _).trans (feq (by decide)).2) (by decide) (by decide) q9_) ?_
  show Go p e below s Z [] _ _ _ (T424.setTop (mkF m 28 #[.val (.ref ta), .val (.int (2 : Int32))] []))
  refine Go.by (fun t9_ q9_ => XS.iloadN W425.here W425.hx rfl (hb hby dc_jdk_52_method_5_code_28) rfl (XS.iconst W425.here W425.hx rfl (hb hby dc_jdk_52_method_5_code_29) (XS.ishl W425.here W425.hx rfl (hb hby dc_jdk_52_method_5_code_30) rfl (XS.istoreN W425.here W425.hx rfl (hb hby dc_jdk_52_method_5_code_31) rfl (l' := #[.val (.ref ta), .val (.int ((2 : Int32) <<< ((1 : Int32) &&& 31)))]) rfl q9_)))) ?_
  show Go p e below s Z [] _ _ _ (T424.setTop (mkF m 32 #[.val (.ref ta), .val (.int ((2 : Int32) <<< ((1 : Int32) &&& 31)))] []))
  rw [show ((2 : Int32) <<< ((1 : Int32) &&& 31)) = (4 : Int32) from by decide]
  show Go p e below s Z [] _ _ _ (T424.setTop (mkF m 32 #[.val (.ref ta), .val (.int (4 : Int32))] []))
  refine Go.by (fun t9_ q9_ => XS.aloadN W425.here W425.hx rfl (hb hby dc_jdk_52_method_5_code_32) rfl rfl (XS.iloadN W425.here W425.hx rfl (hb hby dc_jdk_52_method_5_code_33) rfl (XS.iinc W425.here W425.hx rfl (hb hby dc_jdk_52_method_5_code_34) rfl (l' := #[.val (.ref ta), .val (.int ((4 : Int32) + (1 : Int32)))]) rfl q9_))) ?_
  show Go p e below s Z [] _ _ _ (T424.setTop (mkF m 37 #[.val (.ref ta), .val (.int ((4 : Int32) + (1 : Int32)))] [(.int (4 : Int32)), (.ref ta)]))
  show Go p e below s Z [] _ _ _ (T424.setTop (mkF m 37 #[.val (.ref ta), .val (.int (5 : Int32))] [(.int (4 : Int32)), (.ref ta)]))
  refine W425.bald A_t ⟨by decide, by decide⟩ (v := (.int uu)) hu (hb hby dc_jdk_52_method_5_code_37) ?_
  show Go p e below s Z [] _ _ _ (T424.setTop (mkF m 38 #[.val (.ref ta), .val (.int (5 : Int32))] [(.int uu)]))
  refine Go.by (fun t9_ q9_ => XS.sipush W425.here W425.hx rfl (hb hby dc_jdk_52_method_5_code_38) (XS.iand W425.here W425.hx rfl (hb hby dc_jdk_52_method_5_code_41) rfl q9_)) ?_
  show Go p e below s Z [] _ _ _ (T424.setTop (mkF m 42 #[.val (.ref ta), .val (.int (5 : Int32))] [(.int (uu &&& (255 : Int32)))]))
  refine W425.gets (host := "") (Or.inl (wd93 hw)) Via.refl (SHI.ext W425.old) (hb hby dc_jdk_52_method_5_code_42) ?_
  intro T426 W427
  show Go p e below s Z [] _ _ _ (T426.setTop (mkF m 45 #[.val (.ref ta), .val (.int (5 : Int32))] [(.int (0 : Int32)), (.int (uu &&& (255 : Int32)))]))
  refine Go.by (fun t9_ q9_ => XS.ishl W427.here W427.hx rfl (hb hby dc_jdk_52_method_5_code_45) rfl (XS.aloadN W427.here W427.hx rfl (hb hby dc_jdk_52_method_5_code_46) rfl rfl (XS.iloadN W427.here W427.hx rfl (hb hby dc_jdk_52_method_5_code_47) rfl q9_))) ?_
  show Go p e below s Z [] _ _ _ (T426.setTop (mkF m 48 #[.val (.ref ta), .val (.int (5 : Int32))] [(.int (5 : Int32)), (.ref ta), (.int ((uu &&& (255 : Int32)) <<< ((0 : Int32) &&& 31)))]))
  refine W427.bald A_t ⟨by decide, by decide⟩ (v := (.int vv)) hv (hb hby dc_jdk_52_method_5_code_48) ?_
  show Go p e below s Z [] _ _ _ (T426.setTop (mkF m 49 #[.val (.ref ta), .val (.int (5 : Int32))] [(.int vv), (.int ((uu &&& (255 : Int32)) <<< ((0 : Int32) &&& 31)))]))
  refine Go.by (fun t9_ q9_ => XS.sipush W427.here W427.hx rfl (hb hby dc_jdk_52_method_5_code_49) (XS.iand W427.here W427.hx rfl (hb hby dc_jdk_52_method_5_code_52) rfl q9_)) ?_
  show Go p e below s Z [] _ _ _ (T426.setTop (mkF m 53 #[.val (.ref ta), .val (.int (5 : Int32))] [(.int (vv &&& (255 : Int32))), (.int ((uu &&& (255 : Int32)) <<< ((0 : Int32) &&& 31)))]))
  refine W427.gets (host := "") (Or.inl (wd94 hw)) Via.refl (SLO.ext W427.old) (hb hby dc_jdk_52_method_5_code_53) ?_
  intro T428 W429
  show Go p e below s Z [] _ _ _ (T428.setTop (mkF m 56 #[.val (.ref ta), .val (.int (5 : Int32))] [(.int (8 : Int32)), (.int (vv &&& (255 : Int32))), (.int ((uu &&& (255 : Int32)) <<< ((0 : Int32) &&& 31)))]))
  refine Go.by (fun t9_ q9_ => XS.ishl W429.here W429.hx rfl (hb hby dc_jdk_52_method_5_code_56) rfl (XS.ior W429.here W429.hx rfl (hb hby dc_jdk_52_method_5_code_57) rfl (XS.i2c W429.here W429.hx rfl (hb hby dc_jdk_52_method_5_code_58) rfl q9_))) ?_
  show Go p e below s Z [] _ _ _ (T428.setTop (mkF m 59 #[.val (.ref ta), .val (.int (5 : Int32))] [(.int ((((uu &&& (255 : Int32)) <<< ((0 : Int32) &&& 31)) ||| ((vv &&& (255 : Int32)) <<< ((8 : Int32) &&& 31))).toUInt32.toUInt16.toUInt32.toInt32))]))
  exact W429.retN (z' := cc) (by decide) (by decide) hret (by simp) (hb hby dc_jdk_52_method_5_code_59) (by show nar .char (StrChars.pairCh uu vv) = cc; rw [hp]; exact nar_id r_c) ⟨rfl, rfl⟩
set_option maxRecDepth 65536 in
set_option maxHeartbeats 40000000 in
theorem c_put4_3 (l : Launch) (Z : State) (a0 : Array Value) (hw : ∀ d ∈ tables_1, d.before a0 Z = true) (hEL : EW Z a0 []) (h0 : Heap) (hE0 : Ext Z.heap h0) (ta : Addr) (k_ta : ClassId) (b0 b1 b2 b3 b4 b5 b6 b7 : Value) (cc : Int32) (SAD : Sta Z Z.heap "java/lang/StringUTF16" "$assertionsDisabled" "Z" (.int 1)) (SHI : Sta Z Z.heap "java/lang/StringUTF16" "HI_BYTE_SHIFT" "I" (.int 0)) (SLO : Sta Z Z.heap "java/lang/StringUTF16" "LO_BYTE_SHIFT" "I" (.int 8)) (A_t : Arv Z h0 ta k_ta .byte (8 : Int32) [b0, b1, b2, b3, b4, b5, b6, b7] (.int (0 : Int32))) (z_ta : Z.heap.size ≤ ta) :
    Con l Z [] [ta] (⟨"java/lang/StringUTF16", "putChar", "([BII)V"⟩ : MethodName) jdk_52_method_4_code 3 none [] ({ frames := 0, cells := 0, slots := 0, locals := 0 } : Room) #[(.ref ta), (.int (3 : Int32)), (.int cc)] h0 (fun v h' => v = none ∧ Keep h0 h' [ta] ∧ Arv Z h' ta k_ta .byte (8 : Int32) [b0, b1, b2, b3, b4, b5, (.int (StrChars.lo8 cc)), (.int (StrChars.hi8 cc))] (.int (0 : Int32))) := by
  refine Con.mk (plainFor_of_name pn_0) hEL hE0 (allS A_t.lt all0) ?_
  intro p e s m below meth c T0 hby hml hret hnm W0
  rw [(show entryFrame m #[(.ref ta), (.int (3 : Int32)), (.int cc)] 3 = mkF m 0 #[.val (.ref ta), .val (.int (3 : Int32)), .val (.int cc)] [] from by first | (simp [entryFrame, mkF, argsToLocals, Value.category]; done) | rfl)]
  refine W0.gets (host := "") (Or.inl (wd92 hw)) Via.refl (SAD.ext W0.old) (hb hby dc_jdk_52_method_4_code_0) ?_
  intro T430 W431
  show Go p e below s Z [] _ _ _ (T430.setTop (mkF m 3 #[.val (.ref ta), .val (.int (3 : Int32)), .val (.int cc)] [(.int (1 : Int32))]))
  refine Go.by (fun t9_ q9_ => XS.ifYes W431.here W431.hx rfl (pc0 := 3) (pc' := 28) rfl (hb hby dc_jdk_52_method_4_code_3) rfl ((if0 _ _).trans (feq (by decide)).2) (by decide) (by decide) q9_) ?_
  show Go p e below s Z [] _ _ _ (T430.setTop (mkF m 28 #[.val (.ref ta), .val (.int (3 : Int32)), .val (.int cc)] []))
  refine Go.by (fun t9_ q9_ => XS.iloadN W431.here W431.hx rfl (hb hby dc_jdk_52_method_4_code_28) rfl (XS.iconst W431.here W431.hx rfl (hb hby dc_jdk_52_method_4_code_29) (XS.ishl W431.here W431.hx rfl (hb hby dc_jdk_52_method_4_code_30) rfl (XS.istoreN W431.here W431.hx rfl (hb hby dc_jdk_52_method_4_code_31) rfl (l' := #[.val (.ref ta), .val (.int ((3 : Int32) <<< ((1 : Int32) &&& 31))), .val (.int cc)]) rfl q9_)))) ?_
  show Go p e below s Z [] _ _ _ (T430.setTop (mkF m 32 #[.val (.ref ta), .val (.int ((3 : Int32) <<< ((1 : Int32) &&& 31))), .val (.int cc)] []))
  rw [show ((3 : Int32) <<< ((1 : Int32) &&& 31)) = (6 : Int32) from by decide]
  show Go p e below s Z [] _ _ _ (T430.setTop (mkF m 32 #[.val (.ref ta), .val (.int (6 : Int32)), .val (.int cc)] []))
  refine Go.by (fun t9_ q9_ => XS.aloadN W431.here W431.hx rfl (hb hby dc_jdk_52_method_4_code_32) rfl rfl (XS.iloadN W431.here W431.hx rfl (hb hby dc_jdk_52_method_4_code_33) rfl (XS.iinc W431.here W431.hx rfl (hb hby dc_jdk_52_method_4_code_34) rfl (l' := #[.val (.ref ta), .val (.int ((6 : Int32) + (1 : Int32))), .val (.int cc)]) rfl q9_))) ?_
  show Go p e below s Z [] _ _ _ (T430.setTop (mkF m 37 #[.val (.ref ta), .val (.int ((6 : Int32) + (1 : Int32))), .val (.int cc)] [(.int (6 : Int32)), (.ref ta)]))
  show Go p e below s Z [] _ _ _ (T430.setTop (mkF m 37 #[.val (.ref ta), .val (.int (7 : Int32)), .val (.int cc)] [(.int (6 : Int32)), (.ref ta)]))
  refine Go.by (fun t9_ q9_ => XS.iloadN W431.here W431.hx rfl (hb hby dc_jdk_52_method_4_code_37) rfl q9_) ?_
  show Go p e below s Z [] _ _ _ (T430.setTop (mkF m 38 #[.val (.ref ta), .val (.int (7 : Int32)), .val (.int cc)] [(.int cc), (.int (6 : Int32)), (.ref ta)]))
  refine W431.gets (host := "") (Or.inl (wd93 hw)) Via.refl (SHI.ext W431.old) (hb hby dc_jdk_52_method_4_code_38) ?_
  intro T432 W433
  show Go p e below s Z [] _ _ _ (T432.setTop (mkF m 41 #[.val (.ref ta), .val (.int (7 : Int32)), .val (.int cc)] [(.int (0 : Int32)), (.int cc), (.int (6 : Int32)), (.ref ta)]))
  refine Go.by (fun t9_ q9_ => XS.ishr W433.here W433.hx rfl (hb hby dc_jdk_52_method_4_code_41) rfl (XS.i2b W433.here W433.hx rfl (hb hby dc_jdk_52_method_4_code_42) rfl q9_)) ?_
  show Go p e below s Z [] _ _ _ (T432.setTop (mkF m 43 #[.val (.ref ta), .val (.int (7 : Int32)), .val (.int cc)] [(.int ((cc >>> ((0 : Int32) &&& 31)).toInt8.toInt32)), (.int (6 : Int32)), (.ref ta)]))
  refine W433.bast A_t ⟨by decide, by decide⟩ (i := 6) rfl (by simp) (v' := (StrChars.lo8 cc)) (by rw [StrChars.shr0]; simp [nar, StrChars.lo8, lo8_lo8]) z_ta (List.mem_of_getElem? (i := 0) rfl) (hb hby dc_jdk_52_method_4_code_43) ?_
  intro T434 h435 W436 Wr437 V438_ta'
  have V438_ta : Arv Z h435 ta k_ta .byte (8 : Int32) [b0, b1, b2, b3, b4, b5, (.int (StrChars.lo8 cc)), b7] (.int (0 : Int32)) := V438_ta'
  show Go p e below s Z [] _ _ _ (T434.setTop (mkF m 44 #[.val (.ref ta), .val (.int (7 : Int32)), .val (.int cc)] []))
  refine Go.by (fun t9_ q9_ => XS.aloadN W436.here W436.hx rfl (hb hby dc_jdk_52_method_4_code_44) rfl rfl (XS.iloadN W436.here W436.hx rfl (hb hby dc_jdk_52_method_4_code_45) rfl (XS.iloadN W436.here W436.hx rfl (hb hby dc_jdk_52_method_4_code_46) rfl q9_))) ?_
  show Go p e below s Z [] _ _ _ (T434.setTop (mkF m 47 #[.val (.ref ta), .val (.int (7 : Int32)), .val (.int cc)] [(.int cc), (.int (7 : Int32)), (.ref ta)]))
  refine W436.gets (host := "") (Or.inl (wd94 hw)) Via.refl (SLO.ext W436.old) (hb hby dc_jdk_52_method_4_code_47) ?_
  intro T439 W440
  show Go p e below s Z [] _ _ _ (T439.setTop (mkF m 50 #[.val (.ref ta), .val (.int (7 : Int32)), .val (.int cc)] [(.int (8 : Int32)), (.int cc), (.int (7 : Int32)), (.ref ta)]))
  refine Go.by (fun t9_ q9_ => XS.ishr W440.here W440.hx rfl (hb hby dc_jdk_52_method_4_code_50) rfl (XS.i2b W440.here W440.hx rfl (hb hby dc_jdk_52_method_4_code_51) rfl q9_)) ?_
  show Go p e below s Z [] _ _ _ (T439.setTop (mkF m 52 #[.val (.ref ta), .val (.int (7 : Int32)), .val (.int cc)] [(.int ((cc >>> ((8 : Int32) &&& 31)).toInt8.toInt32)), (.int (7 : Int32)), (.ref ta)]))
  refine W440.bast V438_ta ⟨by decide, by decide⟩ (i := 7) rfl (by simp) (v' := (StrChars.hi8 cc)) (by simp [nar, StrChars.hi8, StrChars.lo8, lo8_lo8]) z_ta (List.mem_of_getElem? (i := 0) rfl) (hb hby dc_jdk_52_method_4_code_52) ?_
  intro T441 h442 W443 Wr444 V445_ta'
  have V445_ta : Arv Z h442 ta k_ta .byte (8 : Int32) [b0, b1, b2, b3, b4, b5, (.int (StrChars.lo8 cc)), (.int (StrChars.hi8 cc))] (.int (0 : Int32)) := V445_ta'
  show Go p e below s Z [] _ _ _ (T441.setTop (mkF m 53 #[.val (.ref ta), .val (.int (7 : Int32)), .val (.int cc)] []))
  exact W443.retV (by decide) (by decide) hret (hb hby dc_jdk_52_method_4_code_53) ⟨rfl, (((Keep.refl h0 [ta]).wr Wr437 (Or.inl (List.mem_of_getElem? (i := 0) rfl))).wr Wr444 (Or.inl (List.mem_of_getElem? (i := 0) rfl))), V445_ta⟩
set_option maxRecDepth 65536 in
set_option maxHeartbeats 40000000 in
theorem c_get4_3 (l : Launch) (Z : State) (a0 : Array Value) (hw : ∀ d ∈ tables_1, d.before a0 Z = true) (hEL : EW Z a0 []) (h0 : Heap) (hE0 : Ext Z.heap h0) (ta : Addr) (k_ta : ClassId) (vs : List Value) (uu vv cc : Int32) (SAD : Sta Z Z.heap "java/lang/StringUTF16" "$assertionsDisabled" "Z" (.int 1)) (SHI : Sta Z Z.heap "java/lang/StringUTF16" "HI_BYTE_SHIFT" "I" (.int 0)) (SLO : Sta Z Z.heap "java/lang/StringUTF16" "LO_BYTE_SHIFT" "I" (.int 8)) (A_t : Arv Z h0 ta k_ta .byte (8 : Int32) vs (.int (0 : Int32))) (hu : vs.getD 6 (.int (0 : Int32)) = .int uu) (hv : vs.getD 7 (.int (0 : Int32)) = .int vv) (hp : StrChars.pairCh uu vv = cc) (r_c : ¬ cc < 0 ∧ ¬ (65535 : Int32) < cc) :
    Con l Z [] [] (⟨"java/lang/StringUTF16", "getChar", "([BI)C"⟩ : MethodName) jdk_52_method_5_code 2 (some .char) [] ({ frames := 0, cells := 0, slots := 0, locals := 0 } : Room) #[(.ref ta), (.int (3 : Int32))] h0 (fun v h' => v = (some (.int cc)) ∧ h' = h0) := by
  refine Con.mk (plainFor_of_name pn_0) hEL hE0 (fun x hx => by cases hx) ?_
  intro p e s m below meth c T0 hby hml hret hnm W0
  rw [(show entryFrame m #[(.ref ta), (.int (3 : Int32))] 2 = mkF m 0 #[.val (.ref ta), .val (.int (3 : Int32))] [] from by first | (simp [entryFrame, mkF, argsToLocals, Value.category]; done) | rfl)]
  refine W0.gets (host := "") (Or.inl (wd92 hw)) Via.refl (SAD.ext W0.old) (hb hby dc_jdk_52_method_5_code_0) ?_
  intro T446 W447
  show Go p e below s Z [] _ _ _ (T446.setTop (mkF m 3 #[.val (.ref ta), .val (.int (3 : Int32))] [(.int (1 : Int32))]))
  refine Go.by (fun t9_ q9_ => XS.ifYes W447.here W447.hx rfl (pc0 := 3) (pc' := 28) rfl (hb hby dc_jdk_52_method_5_code_3) rfl ((if0 _ _).trans (feq (by decide)).2) (by decide) (by decide) q9_) ?_
  show Go p e below s Z [] _ _ _ (T446.setTop (mkF m 28 #[.val (.ref ta), .val (.int (3 : Int32))] []))
  refine Go.by (fun t9_ q9_ => XS.iloadN W447.here W447.hx rfl (hb hby dc_jdk_52_method_5_code_28) rfl (XS.iconst W447.here W447.hx rfl (hb hby dc_jdk_52_method_5_code_29) (XS.ishl W447.here W447.hx rfl (hb hby dc_jdk_52_method_5_code_30) rfl (XS.istoreN W447.here W447.hx rfl (hb hby dc_jdk_52_method_5_code_31) rfl (l' := #[.val (.ref ta), .val (.int ((3 : Int32) <<< ((1 : Int32) &&& 31)))]) rfl q9_)))) ?_
  show Go p e below s Z [] _ _ _ (T446.setTop (mkF m 32 #[.val (.ref ta), .val (.int ((3 : Int32) <<< ((1 : Int32) &&& 31)))] []))
  rw [show ((3 : Int32) <<< ((1 : Int32) &&& 31)) = (6 : Int32) from by decide]
  show Go p e below s Z [] _ _ _ (T446.setTop (mkF m 32 #[.val (.ref ta), .val (.int (6 : Int32))] []))
  refine Go.by (fun t9_ q9_ => XS.aloadN W447.here W447.hx rfl (hb hby dc_jdk_52_method_5_code_32) rfl rfl (XS.iloadN W447.here W447.hx rfl (hb hby dc_jdk_52_method_5_code_33) rfl (XS.iinc W447.here W447.hx rfl (hb hby dc_jdk_52_method_5_code_34) rfl (l' := #[.val (.ref ta), .val (.int ((6 : Int32) + (1 : Int32)))]) rfl q9_))) ?_
  show Go p e below s Z [] _ _ _ (T446.setTop (mkF m 37 #[.val (.ref ta), .val (.int ((6 : Int32) + (1 : Int32)))] [(.int (6 : Int32)), (.ref ta)]))
  show Go p e below s Z [] _ _ _ (T446.setTop (mkF m 37 #[.val (.ref ta), .val (.int (7 : Int32))] [(.int (6 : Int32)), (.ref ta)]))
  refine W447.bald A_t ⟨by decide, by decide⟩ (v := (.int uu)) hu (hb hby dc_jdk_52_method_5_code_37) ?_
  show Go p e below s Z [] _ _ _ (T446.setTop (mkF m 38 #[.val (.ref ta), .val (.int (7 : Int32))] [(.int uu)]))
  refine Go.by (fun t9_ q9_ => XS.sipush W447.here W447.hx rfl (hb hby dc_jdk_52_method_5_code_38) (XS.iand W447.here W447.hx rfl (hb hby dc_jdk_52_method_5_code_41) rfl q9_)) ?_
  show Go p e below s Z [] _ _ _ (T446.setTop (mkF m 42 #[.val (.ref ta), .val (.int (7 : Int32))] [(.int (uu &&& (255 : Int32)))]))
  refine W447.gets (host := "") (Or.inl (wd93 hw)) Via.refl (SHI.ext W447.old) (hb hby dc_jdk_52_method_5_code_42) ?_
  intro T448 W449
  show Go p e below s Z [] _ _ _ (T448.setTop (mkF m 45 #[.val (.ref ta), .val (.int (7 : Int32))] [(.int (0 : Int32)), (.int (uu &&& (255 : Int32)))]))
  refine Go.by (fun t9_ q9_ => XS.ishl W449.here W449.hx rfl (hb hby dc_jdk_52_method_5_code_45) rfl (XS.aloadN W449.here W449.hx rfl (hb hby dc_jdk_52_method_5_code_46) rfl rfl (XS.iloadN W449.here W449.hx rfl (hb hby dc_jdk_52_method_5_code_47) rfl q9_))) ?_
  show Go p e below s Z [] _ _ _ (T448.setTop (mkF m 48 #[.val (.ref ta), .val (.int (7 : Int32))] [(.int (7 : Int32)), (.ref ta), (.int ((uu &&& (255 : Int32)) <<< ((0 : Int32) &&& 31)))]))
  refine W449.bald A_t ⟨by decide, by decide⟩ (v := (.int vv)) hv (hb hby dc_jdk_52_method_5_code_48) ?_
  show Go p e below s Z [] _ _ _ (T448.setTop (mkF m 49 #[.val (.ref ta), .val (.int (7 : Int32))] [(.int vv), (.int ((uu &&& (255 : Int32)) <<< ((0 : Int32) &&& 31)))]))
  refine Go.by (fun t9_ q9_ => XS.sipush W449.here W449.hx rfl (hb hby dc_jdk_52_method_5_code_49) (XS.iand W449.here W449.hx rfl (hb hby dc_jdk_52_method_5_code_52) rfl q9_)) ?_
  show Go p e below s Z [] _ _ _ (T448.setTop (mkF m 53 #[.val (.ref ta), .val (.int (7 : Int32))] [(.int (vv &&& (255 : Int32))), (.int ((uu &&& (255 : Int32)) <<< ((0 : Int32) &&& 31)))]))
  refine W449.gets (host := "") (Or.inl (wd94 hw)) Via.refl (SLO.ext W449.old) (hb hby dc_jdk_52_method_5_code_53) ?_
  intro T450 W451
  show Go p e below s Z [] _ _ _ (T450.setTop (mkF m 56 #[.val (.ref ta), .val (.int (7 : Int32))] [(.int (8 : Int32)), (.int (vv &&& (255 : Int32))), (.int ((uu &&& (255 : Int32)) <<< ((0 : Int32) &&& 31)))]))
  refine Go.by (fun t9_ q9_ => XS.ishl W451.here W451.hx rfl (hb hby dc_jdk_52_method_5_code_56) rfl (XS.ior W451.here W451.hx rfl (hb hby dc_jdk_52_method_5_code_57) rfl (XS.i2c W451.here W451.hx rfl (hb hby dc_jdk_52_method_5_code_58) rfl q9_))) ?_
  show Go p e below s Z [] _ _ _ (T450.setTop (mkF m 59 #[.val (.ref ta), .val (.int (7 : Int32))] [(.int ((((uu &&& (255 : Int32)) <<< ((0 : Int32) &&& 31)) ||| ((vv &&& (255 : Int32)) <<< ((8 : Int32) &&& 31))).toUInt32.toUInt16.toUInt32.toInt32))]))
  exact W451.retN (z' := cc) (by decide) (by decide) hret (by simp) (hb hby dc_jdk_52_method_5_code_59) (by show nar .char (StrChars.pairCh uu vv) = cc; rw [hp]; exact nar_id r_c) ⟨rfl, rfl⟩
set_option maxRecDepth 65536 in
set_option maxHeartbeats 40000000 in
theorem c_tb4 (l : Launch) (Z : State) (a0 : Array Value) (hw : ∀ d ∈ tables_1, d.before a0 Z = true) (hEL : EW Z a0 []) (h0 : Heap) (hE0 : Ext Z.heap h0) (ba : Addr) (kb : ClassId) (c0 c1 c2 c3 : Int32) (SAD : Sta Z Z.heap "java/lang/StringUTF16" "$assertionsDisabled" "Z" (.int 1)) (SHI : Sta Z Z.heap "java/lang/StringUTF16" "HI_BYTE_SHIFT" "I" (.int 0)) (SLO : Sta Z Z.heap "java/lang/StringUTF16" "LO_BYTE_SHIFT" "I" (.int 8)) (A_b : Arv Z h0 ba kb .char (4 : Int32) [(.int c0), (.int c1), (.int c2), (.int c3)] (.int (0 : Int32))) :
    Con l Z [] [] (⟨"java/lang/StringUTF16", "toBytes", "([CII)[B"⟩ : MethodName) jdk_52_method_14_code 5 (some (.array .byte)) [] ({ frames := 2, cells := 1, slots := 8, locals := 24 } : Room) #[(.ref ba), (.int (0 : Int32)), (.int (4 : Int32))] h0 (fun v h' => ∃ ta kt, v = some (.ref ta) ∧ Ext h0 h' ∧ Exa Z h' ta "[B" ∧ Arv Z h' ta kt .byte (8 : Int32) [(.int (StrChars.lo8 c0)), (.int (StrChars.hi8 c0)), (.int (StrChars.lo8 c1)), (.int (StrChars.hi8 c1)), (.int (StrChars.lo8 c2)), (.int (StrChars.hi8 c2)), (.int (StrChars.lo8 c3)), (.int (StrChars.hi8 c3))] (.int (0 : Int32))) := by
  refine Con.mk (plainFor_of_name pn_0) hEL hE0 (fun x hx => by cases hx) ?_
  intro p e s m below meth c T0 hby hml hret hnm W0
  rw [(show entryFrame m #[(.ref ba), (.int (0 : Int32)), (.int (4 : Int32))] 5 = mkF m 0 #[.val (.ref ba), .val (.int (0 : Int32)), .val (.int (4 : Int32)), .unset, .unset] [] from by first | (simp [entryFrame, mkF, argsToLocals, Value.category]; done) | rfl)]
  refine Go.by (fun t9_ q9_ => XS.iloadN W0.here W0.hx rfl (hb hby dc_jdk_52_method_14_code_0) rfl q9_) ?_
  show Go p e below s Z [] _ _ _ (T0.setTop (mkF m 1 #[.val (.ref ba), .val (.int (0 : Int32)), .val (.int (4 : Int32)), .unset, .unset] [(.int (4 : Int32))]))
  refine W0.callS (y := (⟨"java/lang/StringUTF16", "newBytesFor", "(I)[B"⟩ : MethodName)) (wd82 hw) (wd83 hw) (wd17 hw) (wd84 hw) (by decide) (c_nbf4 l Z a0 hw hEL h0 hE0) all0 (by decide) (by decide) (k' := 1) (n' := 8) rfl rfl (by decide) (by decide) (by rw [hml]; rfl) (argsL := [(.int (4 : Int32))]) (rest := []) (lenOf pd_1 rfl) rfl rfl (Wt := 0) (Nat.le_of_eq rfl) (hb hby dc_jdk_52_method_14_code_1) ?_
  intro v_ T452 h454 W453 hq_
  obtain ⟨ta, k_ta, rfl, X1, z_ta, g_ta, E_ta, A_ta⟩ := hq_
  show Go p e below s Z [] _ _ _ (T452.setTop (mkF m 4 #[.val (.ref ba), .val (.int (0 : Int32)), .val (.int (4 : Int32)), .unset, .unset] [(.ref ta)]))
  have W455 := W453.safeN (A_ta.lt)
  refine Go.by (fun t9_ q9_ => XS.astoreN W455.here W455.hx rfl (hb hby dc_jdk_52_method_14_code_4) rfl rfl (l' := #[.val (.ref ba), .val (.int (0 : Int32)), .val (.int (4 : Int32)), .val (.ref ta), .unset]) rfl (XS.iconst W455.here W455.hx rfl (hb hby dc_jdk_52_method_14_code_5) (XS.istore W455.here W455.hx rfl (hb hby dc_jdk_52_method_14_code_6) rfl (l' := #[.val (.ref ba), .val (.int (0 : Int32)), .val (.int (4 : Int32)), .val (.ref ta), .val (.int (0 : Int32))]) rfl (XS.iload W455.here W455.hx rfl (hb hby dc_jdk_52_method_14_code_8) rfl (XS.iloadN W455.here W455.hx rfl (hb hby dc_jdk_52_method_14_code_10) rfl q9_))))) ?_
  show Go p e below s Z [] _ _ _ (T452.setTop (mkF m 11 #[.val (.ref ba), .val (.int (0 : Int32)), .val (.int (4 : Int32)), .val (.ref ta), .val (.int (0 : Int32))] [(.int (4 : Int32)), (.int (0 : Int32))]))
  refine Go.by (fun t9_ q9_ => XS.icmpNo W455.here W455.hx rfl (hb hby dc_jdk_52_method_14_code_11) rfl (tlt (by decide)).2.1 q9_) ?_
  show Go p e below s Z [] _ _ _ (T452.setTop (mkF m 14 #[.val (.ref ba), .val (.int (0 : Int32)), .val (.int (4 : Int32)), .val (.ref ta), .val (.int (0 : Int32))] []))
  refine Go.by (fun t9_ q9_ => XS.aloadN W455.here W455.hx rfl (hb hby dc_jdk_52_method_14_code_14) rfl rfl (XS.iload W455.here W455.hx rfl (hb hby dc_jdk_52_method_14_code_15) rfl (XS.aloadN W455.here W455.hx rfl (hb hby dc_jdk_52_method_14_code_17) rfl rfl (XS.iloadN W455.here W455.hx rfl (hb hby dc_jdk_52_method_14_code_18) rfl q9_)))) ?_
  show Go p e below s Z [] _ _ _ (T452.setTop (mkF m 19 #[.val (.ref ba), .val (.int (0 : Int32)), .val (.int (4 : Int32)), .val (.ref ta), .val (.int (0 : Int32))] [(.int (0 : Int32)), (.ref ba), (.int (0 : Int32)), (.ref ta)]))
  refine W455.cald (A_b.ext X1) ⟨by decide, by decide⟩ (v := (.int c0)) rfl (hb hby dc_jdk_52_method_14_code_19) ?_
  show Go p e below s Z [] _ _ _ (T452.setTop (mkF m 20 #[.val (.ref ba), .val (.int (0 : Int32)), .val (.int (4 : Int32)), .val (.ref ta), .val (.int (0 : Int32))] [(.int c0), (.int (0 : Int32)), (.ref ta)]))
  refine W455.callS (y := (⟨"java/lang/StringUTF16", "putChar", "([BII)V"⟩ : MethodName)) (wd89 hw) (wd90 hw) (wd17 hw) (wd91 hw) (by decide) (c_put4_0 l Z a0 hw hEL h454 W455.old ta k_ta (.int (0 : Int32)) (.int (0 : Int32)) (.int (0 : Int32)) (.int (0 : Int32)) (.int (0 : Int32)) (.int (0 : Int32)) (.int (0 : Int32)) (.int (0 : Int32)) c0 SAD SHI SLO A_ta z_ta) (allS (List.mem_of_getElem? (i := 0) rfl) all0) (by decide) (by decide) (k' := 1) (n' := 8) rfl rfl (by decide) (by decide) (by rw [hml]; rfl) (argsL := [(.ref ta), (.int (0 : Int32)), (.int c0)]) (rest := []) (lenOf pd_2 rfl) rfl rfl (Wt := 0) (Nat.le_of_eq rfl) (hb hby dc_jdk_52_method_14_code_20) ?_
  intro v_ T456 h458 W457 hq_
  obtain ⟨rfl, K0, A0_ta⟩ := hq_
  show Go p e below s Z [] _ _ _ (T456.setTop (mkF m 23 #[.val (.ref ba), .val (.int (0 : Int32)), .val (.int (4 : Int32)), .val (.ref ta), .val (.int (0 : Int32))] []))
  refine Go.by (fun t9_ q9_ => XS.iinc W457.here W457.hx rfl (hb hby dc_jdk_52_method_14_code_23) rfl (l' := #[.val (.ref ba), .val (.int ((0 : Int32) + (1 : Int32))), .val (.int (4 : Int32)), .val (.ref ta), .val (.int (0 : Int32))]) rfl q9_) ?_
  show Go p e below s Z [] _ _ _ (T456.setTop (mkF m 26 #[.val (.ref ba), .val (.int ((0 : Int32) + (1 : Int32))), .val (.int (4 : Int32)), .val (.ref ta), .val (.int (0 : Int32))] []))
  show Go p e below s Z [] _ _ _ (T456.setTop (mkF m 26 #[.val (.ref ba), .val (.int (1 : Int32)), .val (.int (4 : Int32)), .val (.ref ta), .val (.int (0 : Int32))] []))
  refine Go.by (fun t9_ q9_ => XS.iinc W457.here W457.hx rfl (hb hby dc_jdk_52_method_14_code_26) rfl (l' := #[.val (.ref ba), .val (.int (1 : Int32)), .val (.int (4 : Int32)), .val (.ref ta), .val (.int ((0 : Int32) + (1 : Int32)))]) rfl q9_) ?_
  show Go p e below s Z [] _ _ _ (T456.setTop (mkF m 29 #[.val (.ref ba), .val (.int (1 : Int32)), .val (.int (4 : Int32)), .val (.ref ta), .val (.int ((0 : Int32) + (1 : Int32)))] []))
  show Go p e below s Z [] _ _ _ (T456.setTop (mkF m 29 #[.val (.ref ba), .val (.int (1 : Int32)), .val (.int (4 : Int32)), .val (.ref ta), .val (.int (1 : Int32))] []))
  refine Go.by (fun t9_ q9_ => XS.goto W457.here W457.hx rfl (pc0 := 29) (pc' := 8) rfl (hb hby dc_jdk_52_method_14_code_29) (by decide) (by decide) (XS.iload W457.here W457.hx rfl (hb hby dc_jdk_52_method_14_code_8) rfl (XS.iloadN W457.here W457.hx rfl (hb hby dc_jdk_52_method_14_code_10) rfl q9_))) ?_
  show Go p e below s Z [] _ _ _ (T456.setTop (mkF m 11 #[.val (.ref ba), .val (.int (1 : Int32)), .val (.int (4 : Int32)), .val (.ref ta), .val (.int (1 : Int32))] [(.int (4 : Int32)), (.int (1 : Int32))]))
  refine Go.by (fun t9_ q9_ => XS.icmpNo W457.here W457.hx rfl (hb hby dc_jdk_52_method_14_code_11) rfl (tlt (by decide)).2.1 q9_) ?_
  show Go p e below s Z [] _ _ _ (T456.setTop (mkF m 14 #[.val (.ref ba), .val (.int (1 : Int32)), .val (.int (4 : Int32)), .val (.ref ta), .val (.int (1 : Int32))] []))
  refine Go.by (fun t9_ q9_ => XS.aloadN W457.here W457.hx rfl (hb hby dc_jdk_52_method_14_code_14) rfl rfl (XS.iload W457.here W457.hx rfl (hb hby dc_jdk_52_method_14_code_15) rfl (XS.aloadN W457.here W457.hx rfl (hb hby dc_jdk_52_method_14_code_17) rfl rfl (XS.iloadN W457.here W457.hx rfl (hb hby dc_jdk_52_method_14_code_18) rfl q9_)))) ?_
  show Go p e below s Z [] _ _ _ (T456.setTop (mkF m 19 #[.val (.ref ba), .val (.int (1 : Int32)), .val (.int (4 : Int32)), .val (.ref ta), .val (.int (1 : Int32))] [(.int (1 : Int32)), (.ref ba), (.int (1 : Int32)), (.ref ta)]))
  have X459 : Ext h0 h458 := (Ext.keep' X1 K0 (allS (Nat.le_of_eq g_ta) all0))
  refine W457.cald (A_b.ext X459) ⟨by decide, by decide⟩ (v := (.int c1)) rfl (hb hby dc_jdk_52_method_14_code_19) ?_
  show Go p e below s Z [] _ _ _ (T456.setTop (mkF m 20 #[.val (.ref ba), .val (.int (1 : Int32)), .val (.int (4 : Int32)), .val (.ref ta), .val (.int (1 : Int32))] [(.int c1), (.int (1 : Int32)), (.ref ta)]))
  refine W457.callS (y := (⟨"java/lang/StringUTF16", "putChar", "([BII)V"⟩ : MethodName)) (wd89 hw) (wd90 hw) (wd17 hw) (wd91 hw) (by decide) (c_put4_1 l Z a0 hw hEL h458 W457.old ta k_ta (.int (StrChars.lo8 c0)) (.int (StrChars.hi8 c0)) (.int (0 : Int32)) (.int (0 : Int32)) (.int (0 : Int32)) (.int (0 : Int32)) (.int (0 : Int32)) (.int (0 : Int32)) c1 SAD SHI SLO A0_ta z_ta) (allS (List.mem_of_getElem? (i := 0) rfl) all0) (by decide) (by decide) (k' := 1) (n' := 8) rfl rfl (by decide) (by decide) (by rw [hml]; rfl) (argsL := [(.ref ta), (.int (1 : Int32)), (.int c1)]) (rest := []) (lenOf pd_2 rfl) rfl rfl (Wt := 0) (Nat.le_of_eq rfl) (hb hby dc_jdk_52_method_14_code_20) ?_
  intro v_ T460 h462 W461 hq_
  obtain ⟨rfl, K1, A1_ta⟩ := hq_
  show Go p e below s Z [] _ _ _ (T460.setTop (mkF m 23 #[.val (.ref ba), .val (.int (1 : Int32)), .val (.int (4 : Int32)), .val (.ref ta), .val (.int (1 : Int32))] []))
  refine Go.by (fun t9_ q9_ => XS.iinc W461.here W461.hx rfl (hb hby dc_jdk_52_method_14_code_23) rfl (l' := #[.val (.ref ba), .val (.int ((1 : Int32) + (1 : Int32))), .val (.int (4 : Int32)), .val (.ref ta), .val (.int (1 : Int32))]) rfl q9_) ?_
  show Go p e below s Z [] _ _ _ (T460.setTop (mkF m 26 #[.val (.ref ba), .val (.int ((1 : Int32) + (1 : Int32))), .val (.int (4 : Int32)), .val (.ref ta), .val (.int (1 : Int32))] []))
  show Go p e below s Z [] _ _ _ (T460.setTop (mkF m 26 #[.val (.ref ba), .val (.int (2 : Int32)), .val (.int (4 : Int32)), .val (.ref ta), .val (.int (1 : Int32))] []))
  refine Go.by (fun t9_ q9_ => XS.iinc W461.here W461.hx rfl (hb hby dc_jdk_52_method_14_code_26) rfl (l' := #[.val (.ref ba), .val (.int (2 : Int32)), .val (.int (4 : Int32)), .val (.ref ta), .val (.int ((1 : Int32) + (1 : Int32)))]) rfl q9_) ?_
  show Go p e below s Z [] _ _ _ (T460.setTop (mkF m 29 #[.val (.ref ba), .val (.int (2 : Int32)), .val (.int (4 : Int32)), .val (.ref ta), .val (.int ((1 : Int32) + (1 : Int32)))] []))
  show Go p e below s Z [] _ _ _ (T460.setTop (mkF m 29 #[.val (.ref ba), .val (.int (2 : Int32)), .val (.int (4 : Int32)), .val (.ref ta), .val (.int (2 : Int32))] []))
  refine Go.by (fun t9_ q9_ => XS.goto W461.here W461.hx rfl (pc0 := 29) (pc' := 8) rfl (hb hby dc_jdk_52_method_14_code_29) (by decide) (by decide) (XS.iload W461.here W461.hx rfl (hb hby dc_jdk_52_method_14_code_8) rfl (XS.iloadN W461.here W461.hx rfl (hb hby dc_jdk_52_method_14_code_10) rfl q9_))) ?_
  show Go p e below s Z [] _ _ _ (T460.setTop (mkF m 11 #[.val (.ref ba), .val (.int (2 : Int32)), .val (.int (4 : Int32)), .val (.ref ta), .val (.int (2 : Int32))] [(.int (4 : Int32)), (.int (2 : Int32))]))
  refine Go.by (fun t9_ q9_ => XS.icmpNo W461.here W461.hx rfl (hb hby dc_jdk_52_method_14_code_11) rfl (tlt (by decide)).2.1 q9_) ?_
  show Go p e below s Z [] _ _ _ (T460.setTop (mkF m 14 #[.val (.ref ba), .val (.int (2 : Int32)), .val (.int (4 : Int32)), .val (.ref ta), .val (.int (2 : Int32))] []))
  refine Go.by (fun t9_ q9_ => XS.aloadN W461.here W461.hx rfl (hb hby dc_jdk_52_method_14_code_14) rfl rfl (XS.iload W461.here W461.hx rfl (hb hby dc_jdk_52_method_14_code_15) rfl (XS.aloadN W461.here W461.hx rfl (hb hby dc_jdk_52_method_14_code_17) rfl rfl (XS.iloadN W461.here W461.hx rfl (hb hby dc_jdk_52_method_14_code_18) rfl q9_)))) ?_
  show Go p e below s Z [] _ _ _ (T460.setTop (mkF m 19 #[.val (.ref ba), .val (.int (2 : Int32)), .val (.int (4 : Int32)), .val (.ref ta), .val (.int (2 : Int32))] [(.int (2 : Int32)), (.ref ba), (.int (2 : Int32)), (.ref ta)]))
  have X463 : Ext h0 h462 := (Ext.keep' X459 K1 (allS (Nat.le_of_eq g_ta) all0))
  refine W461.cald (A_b.ext X463) ⟨by decide, by decide⟩ (v := (.int c2)) rfl (hb hby dc_jdk_52_method_14_code_19) ?_
  show Go p e below s Z [] _ _ _ (T460.setTop (mkF m 20 #[.val (.ref ba), .val (.int (2 : Int32)), .val (.int (4 : Int32)), .val (.ref ta), .val (.int (2 : Int32))] [(.int c2), (.int (2 : Int32)), (.ref ta)]))
  refine W461.callS (y := (⟨"java/lang/StringUTF16", "putChar", "([BII)V"⟩ : MethodName)) (wd89 hw) (wd90 hw) (wd17 hw) (wd91 hw) (by decide) (c_put4_2 l Z a0 hw hEL h462 W461.old ta k_ta (.int (StrChars.lo8 c0)) (.int (StrChars.hi8 c0)) (.int (StrChars.lo8 c1)) (.int (StrChars.hi8 c1)) (.int (0 : Int32)) (.int (0 : Int32)) (.int (0 : Int32)) (.int (0 : Int32)) c2 SAD SHI SLO A1_ta z_ta) (allS (List.mem_of_getElem? (i := 0) rfl) all0) (by decide) (by decide) (k' := 1) (n' := 8) rfl rfl (by decide) (by decide) (by rw [hml]; rfl) (argsL := [(.ref ta), (.int (2 : Int32)), (.int c2)]) (rest := []) (lenOf pd_2 rfl) rfl rfl (Wt := 0) (Nat.le_of_eq rfl) (hb hby dc_jdk_52_method_14_code_20) ?_
  intro v_ T464 h466 W465 hq_
  obtain ⟨rfl, K2, A2_ta⟩ := hq_
  show Go p e below s Z [] _ _ _ (T464.setTop (mkF m 23 #[.val (.ref ba), .val (.int (2 : Int32)), .val (.int (4 : Int32)), .val (.ref ta), .val (.int (2 : Int32))] []))
  refine Go.by (fun t9_ q9_ => XS.iinc W465.here W465.hx rfl (hb hby dc_jdk_52_method_14_code_23) rfl (l' := #[.val (.ref ba), .val (.int ((2 : Int32) + (1 : Int32))), .val (.int (4 : Int32)), .val (.ref ta), .val (.int (2 : Int32))]) rfl q9_) ?_
  show Go p e below s Z [] _ _ _ (T464.setTop (mkF m 26 #[.val (.ref ba), .val (.int ((2 : Int32) + (1 : Int32))), .val (.int (4 : Int32)), .val (.ref ta), .val (.int (2 : Int32))] []))
  show Go p e below s Z [] _ _ _ (T464.setTop (mkF m 26 #[.val (.ref ba), .val (.int (3 : Int32)), .val (.int (4 : Int32)), .val (.ref ta), .val (.int (2 : Int32))] []))
  refine Go.by (fun t9_ q9_ => XS.iinc W465.here W465.hx rfl (hb hby dc_jdk_52_method_14_code_26) rfl (l' := #[.val (.ref ba), .val (.int (3 : Int32)), .val (.int (4 : Int32)), .val (.ref ta), .val (.int ((2 : Int32) + (1 : Int32)))]) rfl q9_) ?_
  show Go p e below s Z [] _ _ _ (T464.setTop (mkF m 29 #[.val (.ref ba), .val (.int (3 : Int32)), .val (.int (4 : Int32)), .val (.ref ta), .val (.int ((2 : Int32) + (1 : Int32)))] []))
  show Go p e below s Z [] _ _ _ (T464.setTop (mkF m 29 #[.val (.ref ba), .val (.int (3 : Int32)), .val (.int (4 : Int32)), .val (.ref ta), .val (.int (3 : Int32))] []))
  refine Go.by (fun t9_ q9_ => XS.goto W465.here W465.hx rfl (pc0 := 29) (pc' := 8) rfl (hb hby dc_jdk_52_method_14_code_29) (by decide) (by decide) (XS.iload W465.here W465.hx rfl (hb hby dc_jdk_52_method_14_code_8) rfl (XS.iloadN W465.here W465.hx rfl (hb hby dc_jdk_52_method_14_code_10) rfl q9_))) ?_
  show Go p e below s Z [] _ _ _ (T464.setTop (mkF m 11 #[.val (.ref ba), .val (.int (3 : Int32)), .val (.int (4 : Int32)), .val (.ref ta), .val (.int (3 : Int32))] [(.int (4 : Int32)), (.int (3 : Int32))]))
  refine Go.by (fun t9_ q9_ => XS.icmpNo W465.here W465.hx rfl (hb hby dc_jdk_52_method_14_code_11) rfl (tlt (by decide)).2.1 q9_) ?_
  show Go p e below s Z [] _ _ _ (T464.setTop (mkF m 14 #[.val (.ref ba), .val (.int (3 : Int32)), .val (.int (4 : Int32)), .val (.ref ta), .val (.int (3 : Int32))] []))
  refine Go.by (fun t9_ q9_ => XS.aloadN W465.here W465.hx rfl (hb hby dc_jdk_52_method_14_code_14) rfl rfl (XS.iload W465.here W465.hx rfl (hb hby dc_jdk_52_method_14_code_15) rfl (XS.aloadN W465.here W465.hx rfl (hb hby dc_jdk_52_method_14_code_17) rfl rfl (XS.iloadN W465.here W465.hx rfl (hb hby dc_jdk_52_method_14_code_18) rfl q9_)))) ?_
  show Go p e below s Z [] _ _ _ (T464.setTop (mkF m 19 #[.val (.ref ba), .val (.int (3 : Int32)), .val (.int (4 : Int32)), .val (.ref ta), .val (.int (3 : Int32))] [(.int (3 : Int32)), (.ref ba), (.int (3 : Int32)), (.ref ta)]))
  have X467 : Ext h0 h466 := (Ext.keep' X463 K2 (allS (Nat.le_of_eq g_ta) all0))
  refine W465.cald (A_b.ext X467) ⟨by decide, by decide⟩ (v := (.int c3)) rfl (hb hby dc_jdk_52_method_14_code_19) ?_
  show Go p e below s Z [] _ _ _ (T464.setTop (mkF m 20 #[.val (.ref ba), .val (.int (3 : Int32)), .val (.int (4 : Int32)), .val (.ref ta), .val (.int (3 : Int32))] [(.int c3), (.int (3 : Int32)), (.ref ta)]))
  refine W465.callS (y := (⟨"java/lang/StringUTF16", "putChar", "([BII)V"⟩ : MethodName)) (wd89 hw) (wd90 hw) (wd17 hw) (wd91 hw) (by decide) (c_put4_3 l Z a0 hw hEL h466 W465.old ta k_ta (.int (StrChars.lo8 c0)) (.int (StrChars.hi8 c0)) (.int (StrChars.lo8 c1)) (.int (StrChars.hi8 c1)) (.int (StrChars.lo8 c2)) (.int (StrChars.hi8 c2)) (.int (0 : Int32)) (.int (0 : Int32)) c3 SAD SHI SLO A2_ta z_ta) (allS (List.mem_of_getElem? (i := 0) rfl) all0) (by decide) (by decide) (k' := 1) (n' := 8) rfl rfl (by decide) (by decide) (by rw [hml]; rfl) (argsL := [(.ref ta), (.int (3 : Int32)), (.int c3)]) (rest := []) (lenOf pd_2 rfl) rfl rfl (Wt := 0) (Nat.le_of_eq rfl) (hb hby dc_jdk_52_method_14_code_20) ?_
  intro v_ T468 h470 W469 hq_
  obtain ⟨rfl, K3, A3_ta⟩ := hq_
  show Go p e below s Z [] _ _ _ (T468.setTop (mkF m 23 #[.val (.ref ba), .val (.int (3 : Int32)), .val (.int (4 : Int32)), .val (.ref ta), .val (.int (3 : Int32))] []))
  refine Go.by (fun t9_ q9_ => XS.iinc W469.here W469.hx rfl (hb hby dc_jdk_52_method_14_code_23) rfl (l' := #[.val (.ref ba), .val (.int ((3 : Int32) + (1 : Int32))), .val (.int (4 : Int32)), .val (.ref ta), .val (.int (3 : Int32))]) rfl q9_) ?_
  show Go p e below s Z [] _ _ _ (T468.setTop (mkF m 26 #[.val (.ref ba), .val (.int ((3 : Int32) + (1 : Int32))), .val (.int (4 : Int32)), .val (.ref ta), .val (.int (3 : Int32))] []))
  show Go p e below s Z [] _ _ _ (T468.setTop (mkF m 26 #[.val (.ref ba), .val (.int (4 : Int32)), .val (.int (4 : Int32)), .val (.ref ta), .val (.int (3 : Int32))] []))
  refine Go.by (fun t9_ q9_ => XS.iinc W469.here W469.hx rfl (hb hby dc_jdk_52_method_14_code_26) rfl (l' := #[.val (.ref ba), .val (.int (4 : Int32)), .val (.int (4 : Int32)), .val (.ref ta), .val (.int ((3 : Int32) + (1 : Int32)))]) rfl q9_) ?_
  show Go p e below s Z [] _ _ _ (T468.setTop (mkF m 29 #[.val (.ref ba), .val (.int (4 : Int32)), .val (.int (4 : Int32)), .val (.ref ta), .val (.int ((3 : Int32) + (1 : Int32)))] []))
  show Go p e below s Z [] _ _ _ (T468.setTop (mkF m 29 #[.val (.ref ba), .val (.int (4 : Int32)), .val (.int (4 : Int32)), .val (.ref ta), .val (.int (4 : Int32))] []))
  refine Go.by (fun t9_ q9_ => XS.goto W469.here W469.hx rfl (pc0 := 29) (pc' := 8) rfl (hb hby dc_jdk_52_method_14_code_29) (by decide) (by decide) (XS.iload W469.here W469.hx rfl (hb hby dc_jdk_52_method_14_code_8) rfl (XS.iloadN W469.here W469.hx rfl (hb hby dc_jdk_52_method_14_code_10) rfl q9_))) ?_
  show Go p e below s Z [] _ _ _ (T468.setTop (mkF m 11 #[.val (.ref ba), .val (.int (4 : Int32)), .val (.int (4 : Int32)), .val (.ref ta), .val (.int (4 : Int32))] [(.int (4 : Int32)), (.int (4 : Int32))]))
  refine Go.by (fun t9_ q9_ => XS.icmpYes W469.here W469.hx rfl (pc0 := 11) (pc' := 32) rfl (hb hby dc_jdk_52_method_14_code_11) rfl (flt (by decide)).2.1 (by decide) (by decide) q9_) ?_
  show Go p e below s Z [] _ _ _ (T468.setTop (mkF m 32 #[.val (.ref ba), .val (.int (4 : Int32)), .val (.int (4 : Int32)), .val (.ref ta), .val (.int (4 : Int32))] []))
  refine Go.by (fun t9_ q9_ => XS.aloadN W469.here W469.hx rfl (hb hby dc_jdk_52_method_14_code_32) rfl rfl q9_) ?_
  show Go p e below s Z [] _ _ _ (T468.setTop (mkF m 33 #[.val (.ref ba), .val (.int (4 : Int32)), .val (.int (4 : Int32)), .val (.ref ta), .val (.int (4 : Int32))] [(.ref ta)]))
  have X471 : Ext h0 h470 := (Ext.keep' X467 K3 (allS (Nat.le_of_eq g_ta) all0))
  exact W469.retA (by decide) (by decide) hret rfl rfl (hb hby dc_jdk_52_method_14_code_33) ⟨ta, k_ta, rfl, X471, ((((E_ta.keep K0).keep K1).keep K2).keep K3), A3_ta⟩
set_option maxRecDepth 65536 in
set_option maxHeartbeats 40000000 in
theorem c_cm5_4 (l : Launch) (Z : State) (a0 : Array Value) (hw : ∀ d ∈ tables_1, d.before a0 Z = true) (hEL : EW Z a0 []) (h0 : Heap) (hE0 : Ext Z.heap h0) (ba da : Addr) (kb k_da : ClassId) (c0 c1 c2 c3 : Int32) (A_b : Arv Z h0 ba kb .char (4 : Int32) [(.int c0), (.int c1), (.int c2), (.int c3)] (.int (0 : Int32))) (A_d : Arv Z h0 da k_da .byte (4 : Int32) [(.int (0 : Int32)), (.int (0 : Int32)), (.int (0 : Int32)), (.int (0 : Int32))] (.int (0 : Int32))) (z_da : Z.heap.size ≤ da) (nbd : ba ≠ da) (hbig : (255 : Int32) < c0 ∨ (255 : Int32) < c1 ∨ (255 : Int32) < c2 ∨ (255 : Int32) < c3) :
    Con l Z [] [da] (⟨"java/lang/StringUTF16", "compress", "([CI[BII)I"⟩ : MethodName) jdk_52_method_21_code 7 (some .int) [] ({ frames := 0, cells := 0, slots := 0, locals := 0 } : Room) #[(.ref ba), (.int (0 : Int32)), (.ref da), (.int (0 : Int32)), (.int (4 : Int32))] h0 (fun v h' => ∃ kk : Int32, v = some (.int kk) ∧ Keep h0 h' [da] ∧ (kk = (0 : Int32) ∧ (255 : Int32) < c0 ∨ kk = (1 : Int32) ∧ (255 : Int32) < c1 ∨ kk = (2 : Int32) ∧ (255 : Int32) < c2 ∨ kk = (3 : Int32) ∧ (255 : Int32) < c3)) := by
  refine Con.mk (plainFor_of_name pn_0) hEL hE0 (allS A_d.lt all0) ?_
  intro p e s m below meth c T0 hby hml hret hnm W0
  rw [(show entryFrame m #[(.ref ba), (.int (0 : Int32)), (.ref da), (.int (0 : Int32)), (.int (4 : Int32))] 7 = mkF m 0 #[.val (.ref ba), .val (.int (0 : Int32)), .val (.ref da), .val (.int (0 : Int32)), .val (.int (4 : Int32)), .unset, .unset] [] from by first | (simp [entryFrame, mkF, argsToLocals, Value.category]; done) | rfl)]
  refine Go.by (fun t9_ q9_ => XS.iconst W0.here W0.hx rfl (hb hby dc_jdk_52_method_21_code_0) (XS.istore W0.here W0.hx rfl (hb hby dc_jdk_52_method_21_code_1) rfl (l' := #[.val (.ref ba), .val (.int (0 : Int32)), .val (.ref da), .val (.int (0 : Int32)), .val (.int (4 : Int32)), .val (.int (0 : Int32)), .unset]) rfl (XS.iload W0.here W0.hx rfl (hb hby dc_jdk_52_method_21_code_3) rfl (XS.iload W0.here W0.hx rfl (hb hby dc_jdk_52_method_21_code_5) rfl q9_)))) ?_
  show Go p e below s Z [] _ _ _ (T0.setTop (mkF m 7 #[.val (.ref ba), .val (.int (0 : Int32)), .val (.ref da), .val (.int (0 : Int32)), .val (.int (4 : Int32)), .val (.int (0 : Int32)), .unset] [(.int (4 : Int32)), (.int (0 : Int32))]))
  refine Go.by (fun t9_ q9_ => XS.icmpNo W0.here W0.hx rfl (hb hby dc_jdk_52_method_21_code_7) rfl (tlt (by decide)).2.1 q9_) ?_
  show Go p e below s Z [] _ _ _ (T0.setTop (mkF m 10 #[.val (.ref ba), .val (.int (0 : Int32)), .val (.ref da), .val (.int (0 : Int32)), .val (.int (4 : Int32)), .val (.int (0 : Int32)), .unset] []))
  refine Go.by (fun t9_ q9_ => XS.aloadN W0.here W0.hx rfl (hb hby dc_jdk_52_method_21_code_10) rfl rfl (XS.iloadN W0.here W0.hx rfl (hb hby dc_jdk_52_method_21_code_11) rfl q9_)) ?_
  show Go p e below s Z [] _ _ _ (T0.setTop (mkF m 12 #[.val (.ref ba), .val (.int (0 : Int32)), .val (.ref da), .val (.int (0 : Int32)), .val (.int (4 : Int32)), .val (.int (0 : Int32)), .unset] [(.int (0 : Int32)), (.ref ba)]))
  refine W0.cald A_b ⟨by decide, by decide⟩ (v := (.int c0)) rfl (hb hby dc_jdk_52_method_21_code_12) ?_
  show Go p e below s Z [] _ _ _ (T0.setTop (mkF m 13 #[.val (.ref ba), .val (.int (0 : Int32)), .val (.ref da), .val (.int (0 : Int32)), .val (.int (4 : Int32)), .val (.int (0 : Int32)), .unset] [(.int c0)]))
  refine Go.by (fun t9_ q9_ => XS.istore W0.here W0.hx rfl (hb hby dc_jdk_52_method_21_code_13) rfl (l' := #[.val (.ref ba), .val (.int (0 : Int32)), .val (.ref da), .val (.int (0 : Int32)), .val (.int (4 : Int32)), .val (.int (0 : Int32)), .val (.int c0)]) rfl (XS.iload W0.here W0.hx rfl (hb hby dc_jdk_52_method_21_code_15) rfl (XS.sipush W0.here W0.hx rfl (hb hby dc_jdk_52_method_21_code_17) q9_))) ?_
  show Go p e below s Z [] _ _ _ (T0.setTop (mkF m 20 #[.val (.ref ba), .val (.int (0 : Int32)), .val (.ref da), .val (.int (0 : Int32)), .val (.int (4 : Int32)), .val (.int (0 : Int32)), .val (.int c0)] [(.int (255 : Int32)), (.int c0)]))
  by_cases e0 : (255 : Int32) < c0
  · refine Go.by (fun t9_ q9_ => XS.icmpNo W0.here W0.hx rfl (hb hby dc_jdk_52_method_21_code_20) rfl (tlt e0).2.2.2 q9_) ?_
    show Go p e below s Z [] _ _ _ (T0.setTop (mkF m 23 #[.val (.ref ba), .val (.int (0 : Int32)), .val (.ref da), .val (.int (0 : Int32)), .val (.int (4 : Int32)), .val (.int (0 : Int32)), .val (.int c0)] []))
    refine Go.by (fun t9_ q9_ => XS.iload W0.here W0.hx rfl (hb hby dc_jdk_52_method_21_code_23) rfl q9_) ?_
    show Go p e below s Z [] _ _ _ (T0.setTop (mkF m 25 #[.val (.ref ba), .val (.int (0 : Int32)), .val (.ref da), .val (.int (0 : Int32)), .val (.int (4 : Int32)), .val (.int (0 : Int32)), .val (.int c0)] [(.int (0 : Int32))]))
    exact W0.retI (by decide) (by decide) hret (hb hby dc_jdk_52_method_21_code_25) ⟨(0 : Int32), rfl, (Keep.refl h0 [da]), Or.inl ⟨rfl, e0⟩⟩
  · refine Go.by (fun t9_ q9_ => XS.icmpYes W0.here W0.hx rfl (pc0 := 20) (pc' := 26) rfl (hb hby dc_jdk_52_method_21_code_20) rfl (flt e0).2.2.2 (by decide) (by decide) q9_) ?_
    show Go p e below s Z [] _ _ _ (T0.setTop (mkF m 26 #[.val (.ref ba), .val (.int (0 : Int32)), .val (.ref da), .val (.int (0 : Int32)), .val (.int (4 : Int32)), .val (.int (0 : Int32)), .val (.int c0)] []))
    refine Go.by (fun t9_ q9_ => XS.aloadN W0.here W0.hx rfl (hb hby dc_jdk_52_method_21_code_26) rfl rfl (XS.iloadN W0.here W0.hx rfl (hb hby dc_jdk_52_method_21_code_27) rfl (XS.iload W0.here W0.hx rfl (hb hby dc_jdk_52_method_21_code_28) rfl (XS.i2b W0.here W0.hx rfl (hb hby dc_jdk_52_method_21_code_30) rfl q9_)))) ?_
    show Go p e below s Z [] _ _ _ (T0.setTop (mkF m 31 #[.val (.ref ba), .val (.int (0 : Int32)), .val (.ref da), .val (.int (0 : Int32)), .val (.int (4 : Int32)), .val (.int (0 : Int32)), .val (.int c0)] [(.int (c0.toInt8.toInt32)), (.int (0 : Int32)), (.ref da)]))
    refine W0.bast A_d ⟨by decide, by decide⟩ (i := 0) rfl (by simp) (v' := (StrChars.lo8 c0)) (by simp [nar, StrChars.lo8, lo8_lo8]) z_da (List.mem_of_getElem? (i := 0) rfl) (hb hby dc_jdk_52_method_21_code_31) ?_
    intro T472 h473 W474 Wr475 V476_da'
    have V476_da : Arv Z h473 da k_da .byte (4 : Int32) [(.int (StrChars.lo8 c0)), (.int (0 : Int32)), (.int (0 : Int32)), (.int (0 : Int32))] (.int (0 : Int32)) := V476_da'
    show Go p e below s Z [] _ _ _ (T472.setTop (mkF m 32 #[.val (.ref ba), .val (.int (0 : Int32)), .val (.ref da), .val (.int (0 : Int32)), .val (.int (4 : Int32)), .val (.int (0 : Int32)), .val (.int c0)] []))
    refine Go.by (fun t9_ q9_ => XS.iinc W474.here W474.hx rfl (hb hby dc_jdk_52_method_21_code_32) rfl (l' := #[.val (.ref ba), .val (.int ((0 : Int32) + (1 : Int32))), .val (.ref da), .val (.int (0 : Int32)), .val (.int (4 : Int32)), .val (.int (0 : Int32)), .val (.int c0)]) rfl q9_) ?_
    show Go p e below s Z [] _ _ _ (T472.setTop (mkF m 35 #[.val (.ref ba), .val (.int ((0 : Int32) + (1 : Int32))), .val (.ref da), .val (.int (0 : Int32)), .val (.int (4 : Int32)), .val (.int (0 : Int32)), .val (.int c0)] []))
    show Go p e below s Z [] _ _ _ (T472.setTop (mkF m 35 #[.val (.ref ba), .val (.int (1 : Int32)), .val (.ref da), .val (.int (0 : Int32)), .val (.int (4 : Int32)), .val (.int (0 : Int32)), .val (.int c0)] []))
    refine Go.by (fun t9_ q9_ => XS.iinc W474.here W474.hx rfl (hb hby dc_jdk_52_method_21_code_35) rfl (l' := #[.val (.ref ba), .val (.int (1 : Int32)), .val (.ref da), .val (.int ((0 : Int32) + (1 : Int32))), .val (.int (4 : Int32)), .val (.int (0 : Int32)), .val (.int c0)]) rfl q9_) ?_
    show Go p e below s Z [] _ _ _ (T472.setTop (mkF m 38 #[.val (.ref ba), .val (.int (1 : Int32)), .val (.ref da), .val (.int ((0 : Int32) + (1 : Int32))), .val (.int (4 : Int32)), .val (.int (0 : Int32)), .val (.int c0)] []))
    show Go p e below s Z [] _ _ _ (T472.setTop (mkF m 38 #[.val (.ref ba), .val (.int (1 : Int32)), .val (.ref da), .val (.int (1 : Int32)), .val (.int (4 : Int32)), .val (.int (0 : Int32)), .val (.int c0)] []))
    refine Go.by (fun t9_ q9_ => XS.iinc W474.here W474.hx rfl (hb hby dc_jdk_52_method_21_code_38) rfl (l' := #[.val (.ref ba), .val (.int (1 : Int32)), .val (.ref da), .val (.int (1 : Int32)), .val (.int (4 : Int32)), .val (.int ((0 : Int32) + (1 : Int32))), .val (.int c0)]) rfl q9_) ?_
    show Go p e below s Z [] _ _ _ (T472.setTop (mkF m 41 #[.val (.ref ba), .val (.int (1 : Int32)), .val (.ref da), .val (.int (1 : Int32)), .val (.int (4 : Int32)), .val (.int ((0 : Int32) + (1 : Int32))), .val (.int c0)] []))
    show Go p e below s Z [] _ _ _ (T472.setTop (mkF m 41 #[.val (.ref ba), .val (.int (1 : Int32)), .val (.ref da), .val (.int (1 : Int32)), .val (.int (4 : Int32)), .val (.int (1 : Int32)), .val (.int c0)] []))
    refine Go.by (fun t9_ q9_ => XS.goto W474.here W474.hx rfl (pc0 := 41) (pc' := 3) rfl (hb hby dc_jdk_52_method_21_code_41) (by decide) (by decide) (XS.iload W474.here W474.hx rfl (hb hby dc_jdk_52_method_21_code_3) rfl (XS.iload W474.here W474.hx rfl (hb hby dc_jdk_52_method_21_code_5) rfl q9_))) ?_
    show Go p e below s Z [] _ _ _ (T472.setTop (mkF m 7 #[.val (.ref ba), .val (.int (1 : Int32)), .val (.ref da), .val (.int (1 : Int32)), .val (.int (4 : Int32)), .val (.int (1 : Int32)), .val (.int c0)] [(.int (4 : Int32)), (.int (1 : Int32))]))
    refine Go.by (fun t9_ q9_ => XS.icmpNo W474.here W474.hx rfl (hb hby dc_jdk_52_method_21_code_7) rfl (tlt (by decide)).2.1 q9_) ?_
    show Go p e below s Z [] _ _ _ (T472.setTop (mkF m 10 #[.val (.ref ba), .val (.int (1 : Int32)), .val (.ref da), .val (.int (1 : Int32)), .val (.int (4 : Int32)), .val (.int (1 : Int32)), .val (.int c0)] []))
    refine Go.by (fun t9_ q9_ => XS.aloadN W474.here W474.hx rfl (hb hby dc_jdk_52_method_21_code_10) rfl rfl (XS.iloadN W474.here W474.hx rfl (hb hby dc_jdk_52_method_21_code_11) rfl q9_)) ?_
    show Go p e below s Z [] _ _ _ (T472.setTop (mkF m 12 #[.val (.ref ba), .val (.int (1 : Int32)), .val (.ref da), .val (.int (1 : Int32)), .val (.int (4 : Int32)), .val (.int (1 : Int32)), .val (.int c0)] [(.int (1 : Int32)), (.ref ba)]))
    refine W474.cald (A_b.other Wr475 nbd) ⟨by decide, by decide⟩ (v := (.int c1)) rfl (hb hby dc_jdk_52_method_21_code_12) ?_
    show Go p e below s Z [] _ _ _ (T472.setTop (mkF m 13 #[.val (.ref ba), .val (.int (1 : Int32)), .val (.ref da), .val (.int (1 : Int32)), .val (.int (4 : Int32)), .val (.int (1 : Int32)), .val (.int c0)] [(.int c1)]))
    refine Go.by (fun t9_ q9_ => XS.istore W474.here W474.hx rfl (hb hby dc_jdk_52_method_21_code_13) rfl (l' := #[.val (.ref ba), .val (.int (1 : Int32)), .val (.ref da), .val (.int (1 : Int32)), .val (.int (4 : Int32)), .val (.int (1 : Int32)), .val (.int c1)]) rfl (XS.iload W474.here W474.hx rfl (hb hby dc_jdk_52_method_21_code_15) rfl (XS.sipush W474.here W474.hx rfl (hb hby dc_jdk_52_method_21_code_17) q9_))) ?_
    show Go p e below s Z [] _ _ _ (T472.setTop (mkF m 20 #[.val (.ref ba), .val (.int (1 : Int32)), .val (.ref da), .val (.int (1 : Int32)), .val (.int (4 : Int32)), .val (.int (1 : Int32)), .val (.int c1)] [(.int (255 : Int32)), (.int c1)]))
    by_cases e1 : (255 : Int32) < c1
    · refine Go.by (fun t9_ q9_ => XS.icmpNo W474.here W474.hx rfl (hb hby dc_jdk_52_method_21_code_20) rfl (tlt e1).2.2.2 q9_) ?_
      show Go p e below s Z [] _ _ _ (T472.setTop (mkF m 23 #[.val (.ref ba), .val (.int (1 : Int32)), .val (.ref da), .val (.int (1 : Int32)), .val (.int (4 : Int32)), .val (.int (1 : Int32)), .val (.int c1)] []))
      refine Go.by (fun t9_ q9_ => XS.iload W474.here W474.hx rfl (hb hby dc_jdk_52_method_21_code_23) rfl q9_) ?_
      show Go p e below s Z [] _ _ _ (T472.setTop (mkF m 25 #[.val (.ref ba), .val (.int (1 : Int32)), .val (.ref da), .val (.int (1 : Int32)), .val (.int (4 : Int32)), .val (.int (1 : Int32)), .val (.int c1)] [(.int (1 : Int32))]))
      exact W474.retI (by decide) (by decide) hret (hb hby dc_jdk_52_method_21_code_25) ⟨(1 : Int32), rfl, ((Keep.refl h0 [da]).wr Wr475 (Or.inl (List.mem_of_getElem? (i := 0) rfl))), Or.inr (Or.inl ⟨rfl, e1⟩)⟩
    · refine Go.by (fun t9_ q9_ => XS.icmpYes W474.here W474.hx rfl (pc0 := 20) (pc' := 26) rfl (hb hby dc_jdk_52_method_21_code_20) rfl (flt e1).2.2.2 (by decide) (by decide) q9_) ?_
      show Go p e below s Z [] _ _ _ (T472.setTop (mkF m 26 #[.val (.ref ba), .val (.int (1 : Int32)), .val (.ref da), .val (.int (1 : Int32)), .val (.int (4 : Int32)), .val (.int (1 : Int32)), .val (.int c1)] []))
      refine Go.by (fun t9_ q9_ => XS.aloadN W474.here W474.hx rfl (hb hby dc_jdk_52_method_21_code_26) rfl rfl (XS.iloadN W474.here W474.hx rfl (hb hby dc_jdk_52_method_21_code_27) rfl (XS.iload W474.here W474.hx rfl (hb hby dc_jdk_52_method_21_code_28) rfl (XS.i2b W474.here W474.hx rfl (hb hby dc_jdk_52_method_21_code_30) rfl q9_)))) ?_
      show Go p e below s Z [] _ _ _ (T472.setTop (mkF m 31 #[.val (.ref ba), .val (.int (1 : Int32)), .val (.ref da), .val (.int (1 : Int32)), .val (.int (4 : Int32)), .val (.int (1 : Int32)), .val (.int c1)] [(.int (c1.toInt8.toInt32)), (.int (1 : Int32)), (.ref da)]))
      refine W474.bast V476_da ⟨by decide, by decide⟩ (i := 1) rfl (by simp) (v' := (StrChars.lo8 c1)) (by simp [nar, StrChars.lo8, lo8_lo8]) z_da (List.mem_of_getElem? (i := 0) rfl) (hb hby dc_jdk_52_method_21_code_31) ?_
      intro T477 h478 W479 Wr480 V481_da'
      have V481_da : Arv Z h478 da k_da .byte (4 : Int32) [(.int (StrChars.lo8 c0)), (.int (StrChars.lo8 c1)), (.int (0 : Int32)), (.int (0 : Int32))] (.int (0 : Int32)) := V481_da'
      show Go p e below s Z [] _ _ _ (T477.setTop (mkF m 32 #[.val (.ref ba), .val (.int (1 : Int32)), .val (.ref da), .val (.int (1 : Int32)), .val (.int (4 : Int32)), .val (.int (1 : Int32)), .val (.int c1)] []))
      refine Go.by (fun t9_ q9_ => XS.iinc W479.here W479.hx rfl (hb hby dc_jdk_52_method_21_code_32) rfl (l' := #[.val (.ref ba), .val (.int ((1 : Int32) + (1 : Int32))), .val (.ref da), .val (.int (1 : Int32)), .val (.int (4 : Int32)), .val (.int (1 : Int32)), .val (.int c1)]) rfl q9_) ?_
      show Go p e below s Z [] _ _ _ (T477.setTop (mkF m 35 #[.val (.ref ba), .val (.int ((1 : Int32) + (1 : Int32))), .val (.ref da), .val (.int (1 : Int32)), .val (.int (4 : Int32)), .val (.int (1 : Int32)), .val (.int c1)] []))
      show Go p e below s Z [] _ _ _ (T477.setTop (mkF m 35 #[.val (.ref ba), .val (.int (2 : Int32)), .val (.ref da), .val (.int (1 : Int32)), .val (.int (4 : Int32)), .val (.int (1 : Int32)), .val (.int c1)] []))
      refine Go.by (fun t9_ q9_ => XS.iinc W479.here W479.hx rfl (hb hby dc_jdk_52_method_21_code_35) rfl (l' := #[.val (.ref ba), .val (.int (2 : Int32)), .val (.ref da), .val (.int ((1 : Int32) + (1 : Int32))), .val (.int (4 : Int32)), .val (.int (1 : Int32)), .val (.int c1)]) rfl q9_) ?_
      show Go p e below s Z [] _ _ _ (T477.setTop (mkF m 38 #[.val (.ref ba), .val (.int (2 : Int32)), .val (.ref da), .val (.int ((1 : Int32) + (1 : Int32))), .val (.int (4 : Int32)), .val (.int (1 : Int32)), .val (.int c1)] []))
      show Go p e below s Z [] _ _ _ (T477.setTop (mkF m 38 #[.val (.ref ba), .val (.int (2 : Int32)), .val (.ref da), .val (.int (2 : Int32)), .val (.int (4 : Int32)), .val (.int (1 : Int32)), .val (.int c1)] []))
      refine Go.by (fun t9_ q9_ => XS.iinc W479.here W479.hx rfl (hb hby dc_jdk_52_method_21_code_38) rfl (l' := #[.val (.ref ba), .val (.int (2 : Int32)), .val (.ref da), .val (.int (2 : Int32)), .val (.int (4 : Int32)), .val (.int ((1 : Int32) + (1 : Int32))), .val (.int c1)]) rfl q9_) ?_
      show Go p e below s Z [] _ _ _ (T477.setTop (mkF m 41 #[.val (.ref ba), .val (.int (2 : Int32)), .val (.ref da), .val (.int (2 : Int32)), .val (.int (4 : Int32)), .val (.int ((1 : Int32) + (1 : Int32))), .val (.int c1)] []))
      show Go p e below s Z [] _ _ _ (T477.setTop (mkF m 41 #[.val (.ref ba), .val (.int (2 : Int32)), .val (.ref da), .val (.int (2 : Int32)), .val (.int (4 : Int32)), .val (.int (2 : Int32)), .val (.int c1)] []))
      refine Go.by (fun t9_ q9_ => XS.goto W479.here W479.hx rfl (pc0 := 41) (pc' := 3) rfl (hb hby dc_jdk_52_method_21_code_41) (by decide) (by decide) (XS.iload W479.here W479.hx rfl (hb hby dc_jdk_52_method_21_code_3) rfl (XS.iload W479.here W479.hx rfl (hb hby dc_jdk_52_method_21_code_5) rfl q9_))) ?_
      show Go p e below s Z [] _ _ _ (T477.setTop (mkF m 7 #[.val (.ref ba), .val (.int (2 : Int32)), .val (.ref da), .val (.int (2 : Int32)), .val (.int (4 : Int32)), .val (.int (2 : Int32)), .val (.int c1)] [(.int (4 : Int32)), (.int (2 : Int32))]))
      refine Go.by (fun t9_ q9_ => XS.icmpNo W479.here W479.hx rfl (hb hby dc_jdk_52_method_21_code_7) rfl (tlt (by decide)).2.1 q9_) ?_
      show Go p e below s Z [] _ _ _ (T477.setTop (mkF m 10 #[.val (.ref ba), .val (.int (2 : Int32)), .val (.ref da), .val (.int (2 : Int32)), .val (.int (4 : Int32)), .val (.int (2 : Int32)), .val (.int c1)] []))
      refine Go.by (fun t9_ q9_ => XS.aloadN W479.here W479.hx rfl (hb hby dc_jdk_52_method_21_code_10) rfl rfl (XS.iloadN W479.here W479.hx rfl (hb hby dc_jdk_52_method_21_code_11) rfl q9_)) ?_
      show Go p e below s Z [] _ _ _ (T477.setTop (mkF m 12 #[.val (.ref ba), .val (.int (2 : Int32)), .val (.ref da), .val (.int (2 : Int32)), .val (.int (4 : Int32)), .val (.int (2 : Int32)), .val (.int c1)] [(.int (2 : Int32)), (.ref ba)]))
      refine W479.cald ((A_b.other Wr475 nbd).other Wr480 nbd) ⟨by decide, by decide⟩ (v := (.int c2)) rfl (hb hby dc_jdk_52_method_21_code_12) ?_
      show Go p e below s Z [] _ _ _ (T477.setTop (mkF m 13 #[.val (.ref ba), .val (.int (2 : Int32)), .val (.ref da), .val (.int (2 : Int32)), .val (.int (4 : Int32)), .val (.int (2 : Int32)), .val (.int c1)] [(.int c2)]))
      refine Go.by (fun t9_ q9_ => XS.istore W479.here W479.hx rfl (hb hby dc_jdk_52_method_21_code_13) rfl (l' := #[.val (.ref ba), .val (.int (2 : Int32)), .val (.ref da), .val (.int (2 : Int32)), .val (.int (4 : Int32)), .val (.int (2 : Int32)), .val (.int c2)]) rfl (XS.iload W479.here W479.hx rfl (hb hby dc_jdk_52_method_21_code_15) rfl (XS.sipush W479.here W479.hx rfl (hb hby dc_jdk_52_method_21_code_17) q9_))) ?_
      show Go p e below s Z [] _ _ _ (T477.setTop (mkF m 20 #[.val (.ref ba), .val (.int (2 : Int32)), .val (.ref da), .val (.int (2 : Int32)), .val (.int (4 : Int32)), .val (.int (2 : Int32)), .val (.int c2)] [(.int (255 : Int32)), (.int c2)]))
      by_cases e2 : (255 : Int32) < c2
      · refine Go.by (fun t9_ q9_ => XS.icmpNo W479.here W479.hx rfl (hb hby dc_jdk_52_method_21_code_20) rfl (tlt e2).2.2.2 q9_) ?_
        show Go p e below s Z [] _ _ _ (T477.setTop (mkF m 23 #[.val (.ref ba), .val (.int (2 : Int32)), .val (.ref da), .val (.int (2 : Int32)), .val (.int (4 : Int32)), .val (.int (2 : Int32)), .val (.int c2)] []))
        refine Go.by (fun t9_ q9_ => XS.iload W479.here W479.hx rfl (hb hby dc_jdk_52_method_21_code_23) rfl q9_) ?_
        show Go p e below s Z [] _ _ _ (T477.setTop (mkF m 25 #[.val (.ref ba), .val (.int (2 : Int32)), .val (.ref da), .val (.int (2 : Int32)), .val (.int (4 : Int32)), .val (.int (2 : Int32)), .val (.int c2)] [(.int (2 : Int32))]))
        exact W479.retI (by decide) (by decide) hret (hb hby dc_jdk_52_method_21_code_25) ⟨(2 : Int32), rfl, (((Keep.refl h0 [da]).wr Wr475 (Or.inl (List.mem_of_getElem? (i := 0) rfl))).wr Wr480 (Or.inl (List.mem_of_getElem? (i := 0) rfl))), Or.inr (Or.inr (Or.inl ⟨rfl, e2⟩))⟩
      · refine Go.by (fun t9_ q9_ => XS.icmpYes W479.here W479.hx rfl (pc0 := 20) (pc' := 26) rfl (hb hby dc_jdk_52_method_21_code_20) rfl (flt e2).2.2.2 (by decide) (by decide) q9_) ?_
        show Go p e below s Z [] _ _ _ (T477.setTop (mkF m 26 #[.val (.ref ba), .val (.int (2 : Int32)), .val (.ref da), .val (.int (2 : Int32)), .val (.int (4 : Int32)), .val (.int (2 : Int32)), .val (.int c2)] []))
        refine Go.by (fun t9_ q9_ => XS.aloadN W479.here W479.hx rfl (hb hby dc_jdk_52_method_21_code_26) rfl rfl (XS.iloadN W479.here W479.hx rfl (hb hby dc_jdk_52_method_21_code_27) rfl (XS.iload W479.here W479.hx rfl (hb hby dc_jdk_52_method_21_code_28) rfl (XS.i2b W479.here W479.hx rfl (hb hby dc_jdk_52_method_21_code_30) rfl q9_)))) ?_
        show Go p e below s Z [] _ _ _ (T477.setTop (mkF m 31 #[.val (.ref ba), .val (.int (2 : Int32)), .val (.ref da), .val (.int (2 : Int32)), .val (.int (4 : Int32)), .val (.int (2 : Int32)), .val (.int c2)] [(.int (c2.toInt8.toInt32)), (.int (2 : Int32)), (.ref da)]))
        refine W479.bast V481_da ⟨by decide, by decide⟩ (i := 2) rfl (by simp) (v' := (StrChars.lo8 c2)) (by simp [nar, StrChars.lo8, lo8_lo8]) z_da (List.mem_of_getElem? (i := 0) rfl) (hb hby dc_jdk_52_method_21_code_31) ?_
        intro T482 h483 W484 Wr485 V486_da'
        have V486_da : Arv Z h483 da k_da .byte (4 : Int32) [(.int (StrChars.lo8 c0)), (.int (StrChars.lo8 c1)), (.int (StrChars.lo8 c2)), (.int (0 : Int32))] (.int (0 : Int32)) := V486_da'
        show Go p e below s Z [] _ _ _ (T482.setTop (mkF m 32 #[.val (.ref ba), .val (.int (2 : Int32)), .val (.ref da), .val (.int (2 : Int32)), .val (.int (4 : Int32)), .val (.int (2 : Int32)), .val (.int c2)] []))
        refine Go.by (fun t9_ q9_ => XS.iinc W484.here W484.hx rfl (hb hby dc_jdk_52_method_21_code_32) rfl (l' := #[.val (.ref ba), .val (.int ((2 : Int32) + (1 : Int32))), .val (.ref da), .val (.int (2 : Int32)), .val (.int (4 : Int32)), .val (.int (2 : Int32)), .val (.int c2)]) rfl q9_) ?_
        show Go p e below s Z [] _ _ _ (T482.setTop (mkF m 35 #[.val (.ref ba), .val (.int ((2 : Int32) + (1 : Int32))), .val (.ref da), .val (.int (2 : Int32)), .val (.int (4 : Int32)), .val (.int (2 : Int32)), .val (.int c2)] []))
        show Go p e below s Z [] _ _ _ (T482.setTop (mkF m 35 #[.val (.ref ba), .val (.int (3 : Int32)), .val (.ref da), .val (.int (2 : Int32)), .val (.int (4 : Int32)), .val (.int (2 : Int32)), .val (.int c2)] []))
        refine Go.by (fun t9_ q9_ => XS.iinc W484.here W484.hx rfl (hb hby dc_jdk_52_method_21_code_35) rfl (l' := #[.val (.ref ba), .val (.int (3 : Int32)), .val (.ref da), .val (.int ((2 : Int32) + (1 : Int32))), .val (.int (4 : Int32)), .val (.int (2 : Int32)), .val (.int c2)]) rfl q9_) ?_
        show Go p e below s Z [] _ _ _ (T482.setTop (mkF m 38 #[.val (.ref ba), .val (.int (3 : Int32)), .val (.ref da), .val (.int ((2 : Int32) + (1 : Int32))), .val (.int (4 : Int32)), .val (.int (2 : Int32)), .val (.int c2)] []))
        show Go p e below s Z [] _ _ _ (T482.setTop (mkF m 38 #[.val (.ref ba), .val (.int (3 : Int32)), .val (.ref da), .val (.int (3 : Int32)), .val (.int (4 : Int32)), .val (.int (2 : Int32)), .val (.int c2)] []))
        refine Go.by (fun t9_ q9_ => XS.iinc W484.here W484.hx rfl (hb hby dc_jdk_52_method_21_code_38) rfl (l' := #[.val (.ref ba), .val (.int (3 : Int32)), .val (.ref da), .val (.int (3 : Int32)), .val (.int (4 : Int32)), .val (.int ((2 : Int32) + (1 : Int32))), .val (.int c2)]) rfl q9_) ?_
        show Go p e below s Z [] _ _ _ (T482.setTop (mkF m 41 #[.val (.ref ba), .val (.int (3 : Int32)), .val (.ref da), .val (.int (3 : Int32)), .val (.int (4 : Int32)), .val (.int ((2 : Int32) + (1 : Int32))), .val (.int c2)] []))
        show Go p e below s Z [] _ _ _ (T482.setTop (mkF m 41 #[.val (.ref ba), .val (.int (3 : Int32)), .val (.ref da), .val (.int (3 : Int32)), .val (.int (4 : Int32)), .val (.int (3 : Int32)), .val (.int c2)] []))
        refine Go.by (fun t9_ q9_ => XS.goto W484.here W484.hx rfl (pc0 := 41) (pc' := 3) rfl (hb hby dc_jdk_52_method_21_code_41) (by decide) (by decide) (XS.iload W484.here W484.hx rfl (hb hby dc_jdk_52_method_21_code_3) rfl (XS.iload W484.here W484.hx rfl (hb hby dc_jdk_52_method_21_code_5) rfl q9_))) ?_
        show Go p e below s Z [] _ _ _ (T482.setTop (mkF m 7 #[.val (.ref ba), .val (.int (3 : Int32)), .val (.ref da), .val (.int (3 : Int32)), .val (.int (4 : Int32)), .val (.int (3 : Int32)), .val (.int c2)] [(.int (4 : Int32)), (.int (3 : Int32))]))
        refine Go.by (fun t9_ q9_ => XS.icmpNo W484.here W484.hx rfl (hb hby dc_jdk_52_method_21_code_7) rfl (tlt (by decide)).2.1 q9_) ?_
        show Go p e below s Z [] _ _ _ (T482.setTop (mkF m 10 #[.val (.ref ba), .val (.int (3 : Int32)), .val (.ref da), .val (.int (3 : Int32)), .val (.int (4 : Int32)), .val (.int (3 : Int32)), .val (.int c2)] []))
        refine Go.by (fun t9_ q9_ => XS.aloadN W484.here W484.hx rfl (hb hby dc_jdk_52_method_21_code_10) rfl rfl (XS.iloadN W484.here W484.hx rfl (hb hby dc_jdk_52_method_21_code_11) rfl q9_)) ?_
        show Go p e below s Z [] _ _ _ (T482.setTop (mkF m 12 #[.val (.ref ba), .val (.int (3 : Int32)), .val (.ref da), .val (.int (3 : Int32)), .val (.int (4 : Int32)), .val (.int (3 : Int32)), .val (.int c2)] [(.int (3 : Int32)), (.ref ba)]))
        refine W484.cald (((A_b.other Wr475 nbd).other Wr480 nbd).other Wr485 nbd) ⟨by decide, by decide⟩ (v := (.int c3)) rfl (hb hby dc_jdk_52_method_21_code_12) ?_
        show Go p e below s Z [] _ _ _ (T482.setTop (mkF m 13 #[.val (.ref ba), .val (.int (3 : Int32)), .val (.ref da), .val (.int (3 : Int32)), .val (.int (4 : Int32)), .val (.int (3 : Int32)), .val (.int c2)] [(.int c3)]))
        refine Go.by (fun t9_ q9_ => XS.istore W484.here W484.hx rfl (hb hby dc_jdk_52_method_21_code_13) rfl (l' := #[.val (.ref ba), .val (.int (3 : Int32)), .val (.ref da), .val (.int (3 : Int32)), .val (.int (4 : Int32)), .val (.int (3 : Int32)), .val (.int c3)]) rfl (XS.iload W484.here W484.hx rfl (hb hby dc_jdk_52_method_21_code_15) rfl (XS.sipush W484.here W484.hx rfl (hb hby dc_jdk_52_method_21_code_17) q9_))) ?_
        show Go p e below s Z [] _ _ _ (T482.setTop (mkF m 20 #[.val (.ref ba), .val (.int (3 : Int32)), .val (.ref da), .val (.int (3 : Int32)), .val (.int (4 : Int32)), .val (.int (3 : Int32)), .val (.int c3)] [(.int (255 : Int32)), (.int c3)]))
        by_cases e3 : (255 : Int32) < c3
        · refine Go.by (fun t9_ q9_ => XS.icmpNo W484.here W484.hx rfl (hb hby dc_jdk_52_method_21_code_20) rfl (tlt e3).2.2.2 q9_) ?_
          show Go p e below s Z [] _ _ _ (T482.setTop (mkF m 23 #[.val (.ref ba), .val (.int (3 : Int32)), .val (.ref da), .val (.int (3 : Int32)), .val (.int (4 : Int32)), .val (.int (3 : Int32)), .val (.int c3)] []))
          refine Go.by (fun t9_ q9_ => XS.iload W484.here W484.hx rfl (hb hby dc_jdk_52_method_21_code_23) rfl q9_) ?_
          show Go p e below s Z [] _ _ _ (T482.setTop (mkF m 25 #[.val (.ref ba), .val (.int (3 : Int32)), .val (.ref da), .val (.int (3 : Int32)), .val (.int (4 : Int32)), .val (.int (3 : Int32)), .val (.int c3)] [(.int (3 : Int32))]))
          exact W484.retI (by decide) (by decide) hret (hb hby dc_jdk_52_method_21_code_25) ⟨(3 : Int32), rfl, ((((Keep.refl h0 [da]).wr Wr475 (Or.inl (List.mem_of_getElem? (i := 0) rfl))).wr Wr480 (Or.inl (List.mem_of_getElem? (i := 0) rfl))).wr Wr485 (Or.inl (List.mem_of_getElem? (i := 0) rfl))), Or.inr (Or.inr (Or.inr (⟨rfl, e3⟩)))⟩
        · refine Go.by (fun t9_ q9_ => XS.icmpYes W484.here W484.hx rfl (pc0 := 20) (pc' := 26) rfl (hb hby dc_jdk_52_method_21_code_20) rfl (flt e3).2.2.2 (by decide) (by decide) q9_) ?_
          show Go p e below s Z [] _ _ _ (T482.setTop (mkF m 26 #[.val (.ref ba), .val (.int (3 : Int32)), .val (.ref da), .val (.int (3 : Int32)), .val (.int (4 : Int32)), .val (.int (3 : Int32)), .val (.int c3)] []))
          refine Go.by (fun t9_ q9_ => XS.aloadN W484.here W484.hx rfl (hb hby dc_jdk_52_method_21_code_26) rfl rfl (XS.iloadN W484.here W484.hx rfl (hb hby dc_jdk_52_method_21_code_27) rfl (XS.iload W484.here W484.hx rfl (hb hby dc_jdk_52_method_21_code_28) rfl (XS.i2b W484.here W484.hx rfl (hb hby dc_jdk_52_method_21_code_30) rfl q9_)))) ?_
          show Go p e below s Z [] _ _ _ (T482.setTop (mkF m 31 #[.val (.ref ba), .val (.int (3 : Int32)), .val (.ref da), .val (.int (3 : Int32)), .val (.int (4 : Int32)), .val (.int (3 : Int32)), .val (.int c3)] [(.int (c3.toInt8.toInt32)), (.int (3 : Int32)), (.ref da)]))
          refine W484.bast V486_da ⟨by decide, by decide⟩ (i := 3) rfl (by simp) (v' := (StrChars.lo8 c3)) (by simp [nar, StrChars.lo8, lo8_lo8]) z_da (List.mem_of_getElem? (i := 0) rfl) (hb hby dc_jdk_52_method_21_code_31) ?_
          intro T487 h488 W489 Wr490 V491_da'
          have V491_da : Arv Z h488 da k_da .byte (4 : Int32) [(.int (StrChars.lo8 c0)), (.int (StrChars.lo8 c1)), (.int (StrChars.lo8 c2)), (.int (StrChars.lo8 c3))] (.int (0 : Int32)) := V491_da'
          show Go p e below s Z [] _ _ _ (T487.setTop (mkF m 32 #[.val (.ref ba), .val (.int (3 : Int32)), .val (.ref da), .val (.int (3 : Int32)), .val (.int (4 : Int32)), .val (.int (3 : Int32)), .val (.int c3)] []))
          refine Go.by (fun t9_ q9_ => XS.iinc W489.here W489.hx rfl (hb hby dc_jdk_52_method_21_code_32) rfl (l' := #[.val (.ref ba), .val (.int ((3 : Int32) + (1 : Int32))), .val (.ref da), .val (.int (3 : Int32)), .val (.int (4 : Int32)), .val (.int (3 : Int32)), .val (.int c3)]) rfl q9_) ?_
          show Go p e below s Z [] _ _ _ (T487.setTop (mkF m 35 #[.val (.ref ba), .val (.int ((3 : Int32) + (1 : Int32))), .val (.ref da), .val (.int (3 : Int32)), .val (.int (4 : Int32)), .val (.int (3 : Int32)), .val (.int c3)] []))
          show Go p e below s Z [] _ _ _ (T487.setTop (mkF m 35 #[.val (.ref ba), .val (.int (4 : Int32)), .val (.ref da), .val (.int (3 : Int32)), .val (.int (4 : Int32)), .val (.int (3 : Int32)), .val (.int c3)] []))
          refine Go.by (fun t9_ q9_ => XS.iinc W489.here W489.hx rfl (hb hby dc_jdk_52_method_21_code_35) rfl (l' := #[.val (.ref ba), .val (.int (4 : Int32)), .val (.ref da), .val (.int ((3 : Int32) + (1 : Int32))), .val (.int (4 : Int32)), .val (.int (3 : Int32)), .val (.int c3)]) rfl q9_) ?_
          show Go p e below s Z [] _ _ _ (T487.setTop (mkF m 38 #[.val (.ref ba), .val (.int (4 : Int32)), .val (.ref da), .val (.int ((3 : Int32) + (1 : Int32))), .val (.int (4 : Int32)), .val (.int (3 : Int32)), .val (.int c3)] []))
          show Go p e below s Z [] _ _ _ (T487.setTop (mkF m 38 #[.val (.ref ba), .val (.int (4 : Int32)), .val (.ref da), .val (.int (4 : Int32)), .val (.int (4 : Int32)), .val (.int (3 : Int32)), .val (.int c3)] []))
          refine Go.by (fun t9_ q9_ => XS.iinc W489.here W489.hx rfl (hb hby dc_jdk_52_method_21_code_38) rfl (l' := #[.val (.ref ba), .val (.int (4 : Int32)), .val (.ref da), .val (.int (4 : Int32)), .val (.int (4 : Int32)), .val (.int ((3 : Int32) + (1 : Int32))), .val (.int c3)]) rfl q9_) ?_
          show Go p e below s Z [] _ _ _ (T487.setTop (mkF m 41 #[.val (.ref ba), .val (.int (4 : Int32)), .val (.ref da), .val (.int (4 : Int32)), .val (.int (4 : Int32)), .val (.int ((3 : Int32) + (1 : Int32))), .val (.int c3)] []))
          show Go p e below s Z [] _ _ _ (T487.setTop (mkF m 41 #[.val (.ref ba), .val (.int (4 : Int32)), .val (.ref da), .val (.int (4 : Int32)), .val (.int (4 : Int32)), .val (.int (4 : Int32)), .val (.int c3)] []))
          rcases hbig with z0 | z1 | z2 | z3 <;> contradiction
set_option maxRecDepth 65536 in
set_option maxHeartbeats 40000000 in
theorem c_cm3_4 (l : Launch) (Z : State) (a0 : Array Value) (hw : ∀ d ∈ tables_1, d.before a0 Z = true) (hEL : EW Z a0 []) (h0 : Heap) (hE0 : Ext Z.heap h0) (ba : Addr) (kb : ClassId) (c0 c1 c2 c3 : Int32) (SAD : Sta Z Z.heap "java/lang/StringUTF16" "$assertionsDisabled" "Z" (.int 1)) (SHI : Sta Z Z.heap "java/lang/StringUTF16" "HI_BYTE_SHIFT" "I" (.int 0)) (SLO : Sta Z Z.heap "java/lang/StringUTF16" "LO_BYTE_SHIFT" "I" (.int 8)) (A_b : Arv Z h0 ba kb .char (4 : Int32) [(.int c0), (.int c1), (.int c2), (.int c3)] (.int (0 : Int32))) (r0 : ¬ c0 < 0 ∧ ¬ (65535 : Int32) < c0) (r1 : ¬ c1 < 0 ∧ ¬ (65535 : Int32) < c1) (r2 : ¬ c2 < 0 ∧ ¬ (65535 : Int32) < c2) (r3 : ¬ c3 < 0 ∧ ¬ (65535 : Int32) < c3) (hbig : (255 : Int32) < c0 ∨ (255 : Int32) < c1 ∨ (255 : Int32) < c2 ∨ (255 : Int32) < c3) :
    Con l Z [] [] (⟨"java/lang/StringUTF16", "compress", "([CII)[B"⟩ : MethodName) jdk_52_method_16_code 6 (some (.array .byte)) [] ({ frames := 3, cells := 2, slots := 12, locals := 40 } : Room) #[(.ref ba), (.int (0 : Int32)), (.int (4 : Int32))] h0 (fun v h' => ∃ ta kt, v = some (.ref ta) ∧ Ext h0 h' ∧ Exa Z h' ta "[B" ∧ Arv Z h' ta kt .byte (8 : Int32) [(.int (StrChars.lo8 c0)), (.int (StrChars.hi8 c0)), (.int (StrChars.lo8 c1)), (.int (StrChars.hi8 c1)), (.int (StrChars.lo8 c2)), (.int (StrChars.hi8 c2)), (.int (StrChars.lo8 c3)), (.int (StrChars.hi8 c3))] (.int (0 : Int32))) := by
  refine Con.mk (plainFor_of_name pn_0) hEL hE0 (fun x hx => by cases hx) ?_
  intro p e s m below meth c T0 hby hml hret hnm W0
  rw [(show entryFrame m #[(.ref ba), (.int (0 : Int32)), (.int (4 : Int32))] 6 = mkF m 0 #[.val (.ref ba), .val (.int (0 : Int32)), .val (.int (4 : Int32)), .unset, .unset, .unset] [] from by first | (simp [entryFrame, mkF, argsToLocals, Value.category]; done) | rfl)]
  refine Go.by (fun t9_ q9_ => XS.iloadN W0.here W0.hx rfl (hb hby dc_jdk_52_method_16_code_0) rfl q9_) ?_
  show Go p e below s Z [] _ _ _ (T0.setTop (mkF m 1 #[.val (.ref ba), .val (.int (0 : Int32)), .val (.int (4 : Int32)), .unset, .unset, .unset] [(.int (4 : Int32))]))
  refine W0.newp (aty := .byte) (wd19 hw) (hb hby dc_jdk_52_method_16_code_1) (by decide) (cap := 4) (by decide) (by decide) (k' := 1) (n' := 4) rfl rfl (by decide) (by decide) (ad := "[B") rfl ?_
  intro T492 h493 da k_da W494 E495 g_da z_da A_da V_da
  have V1_da : Arv Z h493 da k_da .byte (4 : Int32) [(.int (0 : Int32)), (.int (0 : Int32)), (.int (0 : Int32)), (.int (0 : Int32))] (.int (0 : Int32)) := V_da.pad (pad_rep [] (.int (0 : Int32)) 4)
  show Go p e below s Z [] _ _ _ (T492.setTop (mkF m 3 #[.val (.ref ba), .val (.int (0 : Int32)), .val (.int (4 : Int32)), .unset, .unset, .unset] [(.ref da)]))
  refine Go.by (fun t9_ q9_ => XS.astoreN W494.here W494.hx rfl (hb hby dc_jdk_52_method_16_code_3) rfl rfl (l' := #[.val (.ref ba), .val (.int (0 : Int32)), .val (.int (4 : Int32)), .val (.ref da), .unset, .unset]) rfl (XS.aloadN W494.here W494.hx rfl (hb hby dc_jdk_52_method_16_code_4) rfl rfl (XS.iloadN W494.here W494.hx rfl (hb hby dc_jdk_52_method_16_code_5) rfl (XS.aloadN W494.here W494.hx rfl (hb hby dc_jdk_52_method_16_code_6) rfl rfl (XS.iconst W494.here W494.hx rfl (hb hby dc_jdk_52_method_16_code_7) (XS.iloadN W494.here W494.hx rfl (hb hby dc_jdk_52_method_16_code_8) rfl q9_)))))) ?_
  show Go p e below s Z [] _ _ _ (T492.setTop (mkF m 9 #[.val (.ref ba), .val (.int (0 : Int32)), .val (.int (4 : Int32)), .val (.ref da), .unset, .unset] [(.int (4 : Int32)), (.int (0 : Int32)), (.ref da), (.int (0 : Int32)), (.ref ba)]))
  refine W494.callS (y := (⟨"java/lang/StringUTF16", "compress", "([CI[BII)I"⟩ : MethodName)) (wd20 hw) (wd21 hw) (wd17 hw) (wd22 hw) (by decide) (c_cm5_4 l Z a0 hw hEL h493 W494.old ba da kb k_da c0 c1 c2 c3 (A_b.ext E495) V1_da z_da (Nat.ne_of_lt (Nat.lt_of_lt_of_le A_b.lt (Nat.le_of_eq g_da))) hbig) (allS (List.mem_of_getElem? (i := 0) rfl) all0) (by decide) (by decide) (k' := 1) (n' := 4) rfl rfl (by decide) (by decide) (by rw [hml]; rfl) (argsL := [(.ref ba), (.int (0 : Int32)), (.ref da), (.int (0 : Int32)), (.int (4 : Int32))]) (rest := []) (lenOf pd_3 rfl) rfl rfl (Wt := 0) (Nat.le_of_eq rfl) (hb hby dc_jdk_52_method_16_code_9) ?_
  intro v_ T496 h498 W497 hq_
  obtain ⟨kk, rfl, K1, hk⟩ := hq_
  show Go p e below s Z [] _ _ _ (T496.setTop (mkF m 12 #[.val (.ref ba), .val (.int (0 : Int32)), .val (.int (4 : Int32)), .val (.ref da), .unset, .unset] [(.int kk)]))
  refine Go.by (fun t9_ q9_ => XS.istore W497.here W497.hx rfl (hb hby dc_jdk_52_method_16_code_12) rfl (l' := #[.val (.ref ba), .val (.int (0 : Int32)), .val (.int (4 : Int32)), .val (.ref da), .val (.int kk), .unset]) rfl (XS.iload W497.here W497.hx rfl (hb hby dc_jdk_52_method_16_code_14) rfl (XS.iloadN W497.here W497.hx rfl (hb hby dc_jdk_52_method_16_code_16) rfl q9_))) ?_
  show Go p e below s Z [] _ _ _ (T496.setTop (mkF m 17 #[.val (.ref ba), .val (.int (0 : Int32)), .val (.int (4 : Int32)), .val (.ref da), .val (.int kk), .unset] [(.int (4 : Int32)), (.int kk)]))
  rcases hk with ⟨rfl, e0⟩ | ⟨rfl, e1⟩ | ⟨rfl, e2⟩ | ⟨rfl, e3⟩
  · show Go p e below s Z [] _ _ _ (T496.setTop (mkF m 17 #[.val (.ref ba), .val (.int (0 : Int32)), .val (.int (4 : Int32)), .val (.ref da), .val (.int (0 : Int32)), .unset] [(.int (4 : Int32)), (.int (0 : Int32))]))
    refine Go.by (fun t9_ q9_ => XS.icmpNo W497.here W497.hx rfl (hb hby dc_jdk_52_method_16_code_17) rfl (feq (by decide)).1 q9_) ?_
    show Go p e below s Z [] _ _ _ (T496.setTop (mkF m 20 #[.val (.ref ba), .val (.int (0 : Int32)), .val (.int (4 : Int32)), .val (.ref da), .val (.int (0 : Int32)), .unset] []))
    refine Go.by (fun t9_ q9_ => XS.aloadN W497.here W497.hx rfl (hb hby dc_jdk_52_method_16_code_20) rfl rfl (XS.iloadN W497.here W497.hx rfl (hb hby dc_jdk_52_method_16_code_21) rfl (XS.iloadN W497.here W497.hx rfl (hb hby dc_jdk_52_method_16_code_22) rfl q9_))) ?_
    show Go p e below s Z [] _ _ _ (T496.setTop (mkF m 23 #[.val (.ref ba), .val (.int (0 : Int32)), .val (.int (4 : Int32)), .val (.ref da), .val (.int (0 : Int32)), .unset] [(.int (4 : Int32)), (.int (0 : Int32)), (.ref ba)]))
    have X499 : Ext h0 h498 := (Ext.keep' E495 K1 (allS (Nat.le_of_eq g_da) all0))
    refine W497.callS (y := (⟨"java/lang/StringUTF16", "toBytes", "([CII)[B"⟩ : MethodName)) (wd79 hw) (wd80 hw) (wd17 hw) (wd81 hw) (by decide) (c_tb4 l Z a0 hw hEL h498 W497.old ba kb c0 c1 c2 c3 SAD SHI SLO (A_b.ext X499)) all0 (by decide) (by decide) (k' := 2) (n' := 12) rfl rfl (by decide) (by decide) (by rw [hml]; rfl) (argsL := [(.ref ba), (.int (0 : Int32)), (.int (4 : Int32))]) (rest := []) (lenOf pd_4 rfl) rfl rfl (Wt := 0) (Nat.le_of_eq rfl) (hb hby dc_jdk_52_method_16_code_23) ?_
    intro v_ T500 h502 W501 hq_
    obtain ⟨ta, k_ta, rfl, X2, E_ta, A_ta⟩ := hq_
    show Go p e below s Z [] _ _ _ (T500.setTop (mkF m 26 #[.val (.ref ba), .val (.int (0 : Int32)), .val (.int (4 : Int32)), .val (.ref da), .val (.int (0 : Int32)), .unset] [(.ref ta)]))
    refine Go.by (fun t9_ q9_ => XS.astore W501.here W501.hx rfl (hb hby dc_jdk_52_method_16_code_26) rfl rfl (l' := #[.val (.ref ba), .val (.int (0 : Int32)), .val (.int (4 : Int32)), .val (.ref da), .val (.int (0 : Int32)), .val (.ref ta)]) rfl (XS.aload W501.here W501.hx rfl (hb hby dc_jdk_52_method_16_code_28) rfl rfl (XS.iload W501.here W501.hx rfl (hb hby dc_jdk_52_method_16_code_30) rfl q9_))) ?_
    show Go p e below s Z [] _ _ _ (T500.setTop (mkF m 32 #[.val (.ref ba), .val (.int (0 : Int32)), .val (.int (4 : Int32)), .val (.ref da), .val (.int (0 : Int32)), .val (.ref ta)] [(.int (0 : Int32)), (.ref ta)]))
    refine W501.callSp (y := (⟨"java/lang/StringUTF16", "getChar", "([BI)C"⟩ : MethodName)) (wd95 hw) (wd96 hw) (wd17 hw) (wd97 hw) (by decide) (c_get4_0 l Z a0 hw hEL h502 W501.old ta k_ta _ _ _ c0 SAD SHI SLO A_ta rfl rfl (StrChars.pair_says r0.1 r0.2) r0) all0 (by decide) (by decide) (k' := 2) (n' := 12) rfl rfl (by decide) (by decide) (by rw [hml]; rfl) (argsL := [(.ref ta), (.int (0 : Int32))]) (rest := []) (lenOf pd_5 rfl) rfl rfl (Wt := 0) (Nat.le_of_eq rfl) (hb hby dc_jdk_52_method_16_code_32) ?_
    intro T503 W504
    show Go p e below s Z [] _ _ _ (T503.setTop (mkF m 35 #[.val (.ref ba), .val (.int (0 : Int32)), .val (.int (4 : Int32)), .val (.ref da), .val (.int (0 : Int32)), .val (.ref ta)] [(.int c0)]))
    refine Go.by (fun t9_ q9_ => XS.sipush W504.here W504.hx rfl (hb hby dc_jdk_52_method_16_code_35) q9_) ?_
    show Go p e below s Z [] _ _ _ (T503.setTop (mkF m 38 #[.val (.ref ba), .val (.int (0 : Int32)), .val (.int (4 : Int32)), .val (.ref da), .val (.int (0 : Int32)), .val (.ref ta)] [(.int (255 : Int32)), (.int c0)]))
    refine Go.by (fun t9_ q9_ => XS.icmpYes W504.here W504.hx rfl (pc0 := 38) (pc' := 54) rfl (hb hby dc_jdk_52_method_16_code_38) rfl (tlt e0).2.2.1 (by decide) (by decide) q9_) ?_
    show Go p e below s Z [] _ _ _ (T503.setTop (mkF m 54 #[.val (.ref ba), .val (.int (0 : Int32)), .val (.int (4 : Int32)), .val (.ref da), .val (.int (0 : Int32)), .val (.ref ta)] []))
    refine Go.by (fun t9_ q9_ => XS.aload W504.here W504.hx rfl (hb hby dc_jdk_52_method_16_code_54) rfl rfl q9_) ?_
    show Go p e below s Z [] _ _ _ (T503.setTop (mkF m 56 #[.val (.ref ba), .val (.int (0 : Int32)), .val (.int (4 : Int32)), .val (.ref da), .val (.int (0 : Int32)), .val (.ref ta)] [(.ref ta)]))
    have X505 : Ext h0 h502 := (Ext.trans' X499 X2)
    exact W504.retA (by decide) (by decide) hret rfl rfl (hb hby dc_jdk_52_method_16_code_56) ⟨ta, k_ta, rfl, X505, E_ta, A_ta⟩
  · show Go p e below s Z [] _ _ _ (T496.setTop (mkF m 17 #[.val (.ref ba), .val (.int (0 : Int32)), .val (.int (4 : Int32)), .val (.ref da), .val (.int (1 : Int32)), .unset] [(.int (4 : Int32)), (.int (1 : Int32))]))
    refine Go.by (fun t9_ q9_ => XS.icmpNo W497.here W497.hx rfl (hb hby dc_jdk_52_method_16_code_17) rfl (feq (by decide)).1 q9_) ?_
    show Go p e below s Z [] _ _ _ (T496.setTop (mkF m 20 #[.val (.ref ba), .val (.int (0 : Int32)), .val (.int (4 : Int32)), .val (.ref da), .val (.int (1 : Int32)), .unset] []))
    refine Go.by (fun t9_ q9_ => XS.aloadN W497.here W497.hx rfl (hb hby dc_jdk_52_method_16_code_20) rfl rfl (XS.iloadN W497.here W497.hx rfl (hb hby dc_jdk_52_method_16_code_21) rfl (XS.iloadN W497.here W497.hx rfl (hb hby dc_jdk_52_method_16_code_22) rfl q9_))) ?_
    show Go p e below s Z [] _ _ _ (T496.setTop (mkF m 23 #[.val (.ref ba), .val (.int (0 : Int32)), .val (.int (4 : Int32)), .val (.ref da), .val (.int (1 : Int32)), .unset] [(.int (4 : Int32)), (.int (0 : Int32)), (.ref ba)]))
    have X506 : Ext h0 h498 := (Ext.keep' E495 K1 (allS (Nat.le_of_eq g_da) all0))
    refine W497.callS (y := (⟨"java/lang/StringUTF16", "toBytes", "([CII)[B"⟩ : MethodName)) (wd79 hw) (wd80 hw) (wd17 hw) (wd81 hw) (by decide) (c_tb4 l Z a0 hw hEL h498 W497.old ba kb c0 c1 c2 c3 SAD SHI SLO (A_b.ext X506)) all0 (by decide) (by decide) (k' := 2) (n' := 12) rfl rfl (by decide) (by decide) (by rw [hml]; rfl) (argsL := [(.ref ba), (.int (0 : Int32)), (.int (4 : Int32))]) (rest := []) (lenOf pd_4 rfl) rfl rfl (Wt := 0) (Nat.le_of_eq rfl) (hb hby dc_jdk_52_method_16_code_23) ?_
    intro v_ T507 h509 W508 hq_
    obtain ⟨ta, k_ta, rfl, X2, E_ta, A_ta⟩ := hq_
    show Go p e below s Z [] _ _ _ (T507.setTop (mkF m 26 #[.val (.ref ba), .val (.int (0 : Int32)), .val (.int (4 : Int32)), .val (.ref da), .val (.int (1 : Int32)), .unset] [(.ref ta)]))
    refine Go.by (fun t9_ q9_ => XS.astore W508.here W508.hx rfl (hb hby dc_jdk_52_method_16_code_26) rfl rfl (l' := #[.val (.ref ba), .val (.int (0 : Int32)), .val (.int (4 : Int32)), .val (.ref da), .val (.int (1 : Int32)), .val (.ref ta)]) rfl (XS.aload W508.here W508.hx rfl (hb hby dc_jdk_52_method_16_code_28) rfl rfl (XS.iload W508.here W508.hx rfl (hb hby dc_jdk_52_method_16_code_30) rfl q9_))) ?_
    show Go p e below s Z [] _ _ _ (T507.setTop (mkF m 32 #[.val (.ref ba), .val (.int (0 : Int32)), .val (.int (4 : Int32)), .val (.ref da), .val (.int (1 : Int32)), .val (.ref ta)] [(.int (1 : Int32)), (.ref ta)]))
    refine W508.callSp (y := (⟨"java/lang/StringUTF16", "getChar", "([BI)C"⟩ : MethodName)) (wd95 hw) (wd96 hw) (wd17 hw) (wd97 hw) (by decide) (c_get4_1 l Z a0 hw hEL h509 W508.old ta k_ta _ _ _ c1 SAD SHI SLO A_ta rfl rfl (StrChars.pair_says r1.1 r1.2) r1) all0 (by decide) (by decide) (k' := 2) (n' := 12) rfl rfl (by decide) (by decide) (by rw [hml]; rfl) (argsL := [(.ref ta), (.int (1 : Int32))]) (rest := []) (lenOf pd_5 rfl) rfl rfl (Wt := 0) (Nat.le_of_eq rfl) (hb hby dc_jdk_52_method_16_code_32) ?_
    intro T510 W511
    show Go p e below s Z [] _ _ _ (T510.setTop (mkF m 35 #[.val (.ref ba), .val (.int (0 : Int32)), .val (.int (4 : Int32)), .val (.ref da), .val (.int (1 : Int32)), .val (.ref ta)] [(.int c1)]))
    refine Go.by (fun t9_ q9_ => XS.sipush W511.here W511.hx rfl (hb hby dc_jdk_52_method_16_code_35) q9_) ?_
    show Go p e below s Z [] _ _ _ (T510.setTop (mkF m 38 #[.val (.ref ba), .val (.int (0 : Int32)), .val (.int (4 : Int32)), .val (.ref da), .val (.int (1 : Int32)), .val (.ref ta)] [(.int (255 : Int32)), (.int c1)]))
    refine Go.by (fun t9_ q9_ => XS.icmpYes W511.here W511.hx rfl (pc0 := 38) (pc' := 54) rfl (hb hby dc_jdk_52_method_16_code_38) rfl (tlt e1).2.2.1 (by decide) (by decide) q9_) ?_
    show Go p e below s Z [] _ _ _ (T510.setTop (mkF m 54 #[.val (.ref ba), .val (.int (0 : Int32)), .val (.int (4 : Int32)), .val (.ref da), .val (.int (1 : Int32)), .val (.ref ta)] []))
    refine Go.by (fun t9_ q9_ => XS.aload W511.here W511.hx rfl (hb hby dc_jdk_52_method_16_code_54) rfl rfl q9_) ?_
    show Go p e below s Z [] _ _ _ (T510.setTop (mkF m 56 #[.val (.ref ba), .val (.int (0 : Int32)), .val (.int (4 : Int32)), .val (.ref da), .val (.int (1 : Int32)), .val (.ref ta)] [(.ref ta)]))
    have X512 : Ext h0 h509 := (Ext.trans' X506 X2)
    exact W511.retA (by decide) (by decide) hret rfl rfl (hb hby dc_jdk_52_method_16_code_56) ⟨ta, k_ta, rfl, X512, E_ta, A_ta⟩
  · show Go p e below s Z [] _ _ _ (T496.setTop (mkF m 17 #[.val (.ref ba), .val (.int (0 : Int32)), .val (.int (4 : Int32)), .val (.ref da), .val (.int (2 : Int32)), .unset] [(.int (4 : Int32)), (.int (2 : Int32))]))
    refine Go.by (fun t9_ q9_ => XS.icmpNo W497.here W497.hx rfl (hb hby dc_jdk_52_method_16_code_17) rfl (feq (by decide)).1 q9_) ?_
    show Go p e below s Z [] _ _ _ (T496.setTop (mkF m 20 #[.val (.ref ba), .val (.int (0 : Int32)), .val (.int (4 : Int32)), .val (.ref da), .val (.int (2 : Int32)), .unset] []))
    refine Go.by (fun t9_ q9_ => XS.aloadN W497.here W497.hx rfl (hb hby dc_jdk_52_method_16_code_20) rfl rfl (XS.iloadN W497.here W497.hx rfl (hb hby dc_jdk_52_method_16_code_21) rfl (XS.iloadN W497.here W497.hx rfl (hb hby dc_jdk_52_method_16_code_22) rfl q9_))) ?_
    show Go p e below s Z [] _ _ _ (T496.setTop (mkF m 23 #[.val (.ref ba), .val (.int (0 : Int32)), .val (.int (4 : Int32)), .val (.ref da), .val (.int (2 : Int32)), .unset] [(.int (4 : Int32)), (.int (0 : Int32)), (.ref ba)]))
    have X513 : Ext h0 h498 := (Ext.keep' E495 K1 (allS (Nat.le_of_eq g_da) all0))
    refine W497.callS (y := (⟨"java/lang/StringUTF16", "toBytes", "([CII)[B"⟩ : MethodName)) (wd79 hw) (wd80 hw) (wd17 hw) (wd81 hw) (by decide) (c_tb4 l Z a0 hw hEL h498 W497.old ba kb c0 c1 c2 c3 SAD SHI SLO (A_b.ext X513)) all0 (by decide) (by decide) (k' := 2) (n' := 12) rfl rfl (by decide) (by decide) (by rw [hml]; rfl) (argsL := [(.ref ba), (.int (0 : Int32)), (.int (4 : Int32))]) (rest := []) (lenOf pd_4 rfl) rfl rfl (Wt := 0) (Nat.le_of_eq rfl) (hb hby dc_jdk_52_method_16_code_23) ?_
    intro v_ T514 h516 W515 hq_
    obtain ⟨ta, k_ta, rfl, X2, E_ta, A_ta⟩ := hq_
    show Go p e below s Z [] _ _ _ (T514.setTop (mkF m 26 #[.val (.ref ba), .val (.int (0 : Int32)), .val (.int (4 : Int32)), .val (.ref da), .val (.int (2 : Int32)), .unset] [(.ref ta)]))
    refine Go.by (fun t9_ q9_ => XS.astore W515.here W515.hx rfl (hb hby dc_jdk_52_method_16_code_26) rfl rfl (l' := #[.val (.ref ba), .val (.int (0 : Int32)), .val (.int (4 : Int32)), .val (.ref da), .val (.int (2 : Int32)), .val (.ref ta)]) rfl (XS.aload W515.here W515.hx rfl (hb hby dc_jdk_52_method_16_code_28) rfl rfl (XS.iload W515.here W515.hx rfl (hb hby dc_jdk_52_method_16_code_30) rfl q9_))) ?_
    show Go p e below s Z [] _ _ _ (T514.setTop (mkF m 32 #[.val (.ref ba), .val (.int (0 : Int32)), .val (.int (4 : Int32)), .val (.ref da), .val (.int (2 : Int32)), .val (.ref ta)] [(.int (2 : Int32)), (.ref ta)]))
    refine W515.callSp (y := (⟨"java/lang/StringUTF16", "getChar", "([BI)C"⟩ : MethodName)) (wd95 hw) (wd96 hw) (wd17 hw) (wd97 hw) (by decide) (c_get4_2 l Z a0 hw hEL h516 W515.old ta k_ta _ _ _ c2 SAD SHI SLO A_ta rfl rfl (StrChars.pair_says r2.1 r2.2) r2) all0 (by decide) (by decide) (k' := 2) (n' := 12) rfl rfl (by decide) (by decide) (by rw [hml]; rfl) (argsL := [(.ref ta), (.int (2 : Int32))]) (rest := []) (lenOf pd_5 rfl) rfl rfl (Wt := 0) (Nat.le_of_eq rfl) (hb hby dc_jdk_52_method_16_code_32) ?_
    intro T517 W518
    show Go p e below s Z [] _ _ _ (T517.setTop (mkF m 35 #[.val (.ref ba), .val (.int (0 : Int32)), .val (.int (4 : Int32)), .val (.ref da), .val (.int (2 : Int32)), .val (.ref ta)] [(.int c2)]))
    refine Go.by (fun t9_ q9_ => XS.sipush W518.here W518.hx rfl (hb hby dc_jdk_52_method_16_code_35) q9_) ?_
    show Go p e below s Z [] _ _ _ (T517.setTop (mkF m 38 #[.val (.ref ba), .val (.int (0 : Int32)), .val (.int (4 : Int32)), .val (.ref da), .val (.int (2 : Int32)), .val (.ref ta)] [(.int (255 : Int32)), (.int c2)]))
    refine Go.by (fun t9_ q9_ => XS.icmpYes W518.here W518.hx rfl (pc0 := 38) (pc' := 54) rfl (hb hby dc_jdk_52_method_16_code_38) rfl (tlt e2).2.2.1 (by decide) (by decide) q9_) ?_
    show Go p e below s Z [] _ _ _ (T517.setTop (mkF m 54 #[.val (.ref ba), .val (.int (0 : Int32)), .val (.int (4 : Int32)), .val (.ref da), .val (.int (2 : Int32)), .val (.ref ta)] []))
    refine Go.by (fun t9_ q9_ => XS.aload W518.here W518.hx rfl (hb hby dc_jdk_52_method_16_code_54) rfl rfl q9_) ?_
    show Go p e below s Z [] _ _ _ (T517.setTop (mkF m 56 #[.val (.ref ba), .val (.int (0 : Int32)), .val (.int (4 : Int32)), .val (.ref da), .val (.int (2 : Int32)), .val (.ref ta)] [(.ref ta)]))
    have X519 : Ext h0 h516 := (Ext.trans' X513 X2)
    exact W518.retA (by decide) (by decide) hret rfl rfl (hb hby dc_jdk_52_method_16_code_56) ⟨ta, k_ta, rfl, X519, E_ta, A_ta⟩
  · show Go p e below s Z [] _ _ _ (T496.setTop (mkF m 17 #[.val (.ref ba), .val (.int (0 : Int32)), .val (.int (4 : Int32)), .val (.ref da), .val (.int (3 : Int32)), .unset] [(.int (4 : Int32)), (.int (3 : Int32))]))
    refine Go.by (fun t9_ q9_ => XS.icmpNo W497.here W497.hx rfl (hb hby dc_jdk_52_method_16_code_17) rfl (feq (by decide)).1 q9_) ?_
    show Go p e below s Z [] _ _ _ (T496.setTop (mkF m 20 #[.val (.ref ba), .val (.int (0 : Int32)), .val (.int (4 : Int32)), .val (.ref da), .val (.int (3 : Int32)), .unset] []))
    refine Go.by (fun t9_ q9_ => XS.aloadN W497.here W497.hx rfl (hb hby dc_jdk_52_method_16_code_20) rfl rfl (XS.iloadN W497.here W497.hx rfl (hb hby dc_jdk_52_method_16_code_21) rfl (XS.iloadN W497.here W497.hx rfl (hb hby dc_jdk_52_method_16_code_22) rfl q9_))) ?_
    show Go p e below s Z [] _ _ _ (T496.setTop (mkF m 23 #[.val (.ref ba), .val (.int (0 : Int32)), .val (.int (4 : Int32)), .val (.ref da), .val (.int (3 : Int32)), .unset] [(.int (4 : Int32)), (.int (0 : Int32)), (.ref ba)]))
    have X520 : Ext h0 h498 := (Ext.keep' E495 K1 (allS (Nat.le_of_eq g_da) all0))
    refine W497.callS (y := (⟨"java/lang/StringUTF16", "toBytes", "([CII)[B"⟩ : MethodName)) (wd79 hw) (wd80 hw) (wd17 hw) (wd81 hw) (by decide) (c_tb4 l Z a0 hw hEL h498 W497.old ba kb c0 c1 c2 c3 SAD SHI SLO (A_b.ext X520)) all0 (by decide) (by decide) (k' := 2) (n' := 12) rfl rfl (by decide) (by decide) (by rw [hml]; rfl) (argsL := [(.ref ba), (.int (0 : Int32)), (.int (4 : Int32))]) (rest := []) (lenOf pd_4 rfl) rfl rfl (Wt := 0) (Nat.le_of_eq rfl) (hb hby dc_jdk_52_method_16_code_23) ?_
    intro v_ T521 h523 W522 hq_
    obtain ⟨ta, k_ta, rfl, X2, E_ta, A_ta⟩ := hq_
    show Go p e below s Z [] _ _ _ (T521.setTop (mkF m 26 #[.val (.ref ba), .val (.int (0 : Int32)), .val (.int (4 : Int32)), .val (.ref da), .val (.int (3 : Int32)), .unset] [(.ref ta)]))
    refine Go.by (fun t9_ q9_ => XS.astore W522.here W522.hx rfl (hb hby dc_jdk_52_method_16_code_26) rfl rfl (l' := #[.val (.ref ba), .val (.int (0 : Int32)), .val (.int (4 : Int32)), .val (.ref da), .val (.int (3 : Int32)), .val (.ref ta)]) rfl (XS.aload W522.here W522.hx rfl (hb hby dc_jdk_52_method_16_code_28) rfl rfl (XS.iload W522.here W522.hx rfl (hb hby dc_jdk_52_method_16_code_30) rfl q9_))) ?_
    show Go p e below s Z [] _ _ _ (T521.setTop (mkF m 32 #[.val (.ref ba), .val (.int (0 : Int32)), .val (.int (4 : Int32)), .val (.ref da), .val (.int (3 : Int32)), .val (.ref ta)] [(.int (3 : Int32)), (.ref ta)]))
    refine W522.callSp (y := (⟨"java/lang/StringUTF16", "getChar", "([BI)C"⟩ : MethodName)) (wd95 hw) (wd96 hw) (wd17 hw) (wd97 hw) (by decide) (c_get4_3 l Z a0 hw hEL h523 W522.old ta k_ta _ _ _ c3 SAD SHI SLO A_ta rfl rfl (StrChars.pair_says r3.1 r3.2) r3) all0 (by decide) (by decide) (k' := 2) (n' := 12) rfl rfl (by decide) (by decide) (by rw [hml]; rfl) (argsL := [(.ref ta), (.int (3 : Int32))]) (rest := []) (lenOf pd_5 rfl) rfl rfl (Wt := 0) (Nat.le_of_eq rfl) (hb hby dc_jdk_52_method_16_code_32) ?_
    intro T524 W525
    show Go p e below s Z [] _ _ _ (T524.setTop (mkF m 35 #[.val (.ref ba), .val (.int (0 : Int32)), .val (.int (4 : Int32)), .val (.ref da), .val (.int (3 : Int32)), .val (.ref ta)] [(.int c3)]))
    refine Go.by (fun t9_ q9_ => XS.sipush W525.here W525.hx rfl (hb hby dc_jdk_52_method_16_code_35) q9_) ?_
    show Go p e below s Z [] _ _ _ (T524.setTop (mkF m 38 #[.val (.ref ba), .val (.int (0 : Int32)), .val (.int (4 : Int32)), .val (.ref da), .val (.int (3 : Int32)), .val (.ref ta)] [(.int (255 : Int32)), (.int c3)]))
    refine Go.by (fun t9_ q9_ => XS.icmpYes W525.here W525.hx rfl (pc0 := 38) (pc' := 54) rfl (hb hby dc_jdk_52_method_16_code_38) rfl (tlt e3).2.2.1 (by decide) (by decide) q9_) ?_
    show Go p e below s Z [] _ _ _ (T524.setTop (mkF m 54 #[.val (.ref ba), .val (.int (0 : Int32)), .val (.int (4 : Int32)), .val (.ref da), .val (.int (3 : Int32)), .val (.ref ta)] []))
    refine Go.by (fun t9_ q9_ => XS.aload W525.here W525.hx rfl (hb hby dc_jdk_52_method_16_code_54) rfl rfl q9_) ?_
    show Go p e below s Z [] _ _ _ (T524.setTop (mkF m 56 #[.val (.ref ba), .val (.int (0 : Int32)), .val (.int (4 : Int32)), .val (.ref da), .val (.int (3 : Int32)), .val (.ref ta)] [(.ref ta)]))
    have X526 : Ext h0 h523 := (Ext.trans' X520 X2)
    exact W525.retA (by decide) (by decide) hret rfl rfl (hb hby dc_jdk_52_method_16_code_56) ⟨ta, k_ta, rfl, X526, E_ta, A_ta⟩
set_option maxRecDepth 65536 in
set_option maxHeartbeats 40000000 in
theorem c_cod4 (l : Launch) (Z : State) (a0 : Array Value) (hw : ∀ d ∈ tables_1, d.before a0 Z = true) (hEL : EW Z a0 []) (h0 : Heap) (hE0 : Ext Z.heap h0) (ta : Addr) (k_ta : ClassId) (vs : List Value) (A_t : Arv Z h0 ta k_ta .byte (8 : Int32) vs (.int (0 : Int32))) :
    Con l Z [] [] (⟨"java/lang/StringUTF16", "coderFromArrayLen", "([BI)B"⟩ : MethodName) jdk_52_method_15_code 2 (some .byte) [] ({ frames := 0, cells := 0, slots := 0, locals := 0 } : Room) #[(.ref ta), (.int (4 : Int32))] h0 (fun v h' => v = (some (.int 1)) ∧ h' = h0) := by
  refine Con.mk (plainFor_of_name pn_0) hEL hE0 (fun x hx => by cases hx) ?_
  intro p e s m below meth c T0 hby hml hret hnm W0
  rw [(show entryFrame m #[(.ref ta), (.int (4 : Int32))] 2 = mkF m 0 #[.val (.ref ta), .val (.int (4 : Int32))] [] from by first | (simp [entryFrame, mkF, argsToLocals, Value.category]; done) | rfl)]
  refine Go.by (fun t9_ q9_ => XS.iloadN W0.here W0.hx rfl (hb hby dc_jdk_52_method_15_code_0) rfl (XS.aloadN W0.here W0.hx rfl (hb hby dc_jdk_52_method_15_code_1) rfl rfl q9_)) ?_
  show Go p e below s Z [] _ _ _ (T0.setTop (mkF m 2 #[.val (.ref ta), .val (.int (4 : Int32))] [(.ref ta), (.int (4 : Int32))]))
  refine W0.alen A_t (hb hby dc_jdk_52_method_15_code_2) ?_
  show Go p e below s Z [] _ _ _ (T0.setTop (mkF m 3 #[.val (.ref ta), .val (.int (4 : Int32))] [(.int (8 : Int32)), (.int (4 : Int32))]))
  refine Go.by (fun t9_ q9_ => XS.isub W0.here W0.hx rfl (hb hby dc_jdk_52_method_15_code_3) rfl (XS.bipush W0.here W0.hx rfl (hb hby dc_jdk_52_method_15_code_4) (XS.iushr W0.here W0.hx rfl (hb hby dc_jdk_52_method_15_code_6) rfl (XS.i2b W0.here W0.hx rfl (hb hby dc_jdk_52_method_15_code_7) rfl q9_)))) ?_
  show Go p e below s Z [] _ _ _ (T0.setTop (mkF m 8 #[.val (.ref ta), .val (.int (4 : Int32))] [(.int (((((4 : Int32) - (8 : Int32)).toUInt32 >>> ((31 : Int32) &&& 31).toUInt32).toInt32).toInt8.toInt32))]))
  exact W0.retN (z' := (1 : Int32)) (by decide) (by decide) hret (by simp) (hb hby dc_jdk_52_method_15_code_8) (by decide) ⟨rfl, rfl⟩
set_option maxRecDepth 65536 in
set_option maxHeartbeats 40000000 in
theorem c_s4_4 (l : Launch) (Z : State) (a0 : Array Value) (hw : ∀ d ∈ tables_1, d.before a0 Z = true) (hEL : EW Z a0 []) (h0 : Heap) (hE0 : Ext Z.heap h0) (x ba : Addr) (kb : ClassId) (c0 c1 c2 c3 G1 : Int32) (E_x : Exa Z h0 x "java/lang/String") (FV : Fld Z h0 x "java/lang/String" "value" "[B" .null) (FC : Fld Z h0 x "java/lang/String" "coder" "B" (.int 0)) (z_x : Z.heap.size ≤ x) (SAD : Sta Z Z.heap "java/lang/StringUTF16" "$assertionsDisabled" "Z" (.int 1)) (SHI : Sta Z Z.heap "java/lang/StringUTF16" "HI_BYTE_SHIFT" "I" (.int 0)) (SLO : Sta Z Z.heap "java/lang/StringUTF16" "LO_BYTE_SHIFT" "I" (.int 8)) (SG1 : Sta Z Z.heap "java/lang/String" "COMPACT_STRINGS" "Z" (.int G1)) (hG : ¬ G1 = 0) (A_b : Arv Z h0 ba kb .char (4 : Int32) [(.int c0), (.int c1), (.int c2), (.int c3)] (.int (0 : Int32))) (r0 : ¬ c0 < 0 ∧ ¬ (65535 : Int32) < c0) (r1 : ¬ c1 < 0 ∧ ¬ (65535 : Int32) < c1) (r2 : ¬ c2 < 0 ∧ ¬ (65535 : Int32) < c2) (r3 : ¬ c3 < 0 ∧ ¬ (65535 : Int32) < c3) (hbig : (255 : Int32) < c0 ∨ (255 : Int32) < c1 ∨ (255 : Int32) < c2 ∨ (255 : Int32) < c3) :
    Con l Z [] [x] (⟨"java/lang/String", "<init>", "([CIILjava/lang/Void;)V"⟩ : MethodName) jdk_42_method_149_code 6 none [] ({ frames := 4, cells := 2, slots := 12, locals := 57 } : Room) #[(.ref x), (.ref ba), (.int (0 : Int32)), (.int (4 : Int32)), .null] h0 (fun v h' => v = none ∧ Keep h0 h' [x] ∧ ∃ ta kt, Exa Z h' x "java/lang/String" ∧ Fld Z h' x "java/lang/String" "value" "[B" (.ref ta) ∧ Fld Z h' x "java/lang/String" "coder" "B" (.int 1) ∧ Arv Z h' ta kt .byte (8 : Int32) [(.int (StrChars.lo8 c0)), (.int (StrChars.hi8 c0)), (.int (StrChars.lo8 c1)), (.int (StrChars.hi8 c1)), (.int (StrChars.lo8 c2)), (.int (StrChars.hi8 c2)), (.int (StrChars.lo8 c3)), (.int (StrChars.hi8 c3))] (.int (0 : Int32))) := by
  refine Con.mk (plainFor_of_name pn_1) hEL hE0 (allS E_x.lt all0) ?_
  intro p e s m below meth c T0 hby hml hret hnm W0
  rw [(show entryFrame m #[(.ref x), (.ref ba), (.int (0 : Int32)), (.int (4 : Int32)), .null] 6 = mkF m 0 #[.val (.ref x), .val (.ref ba), .val (.int (0 : Int32)), .val (.int (4 : Int32)), .val .null, .unset] [] from by first | (simp [entryFrame, mkF, argsToLocals, Value.category]; done) | rfl)]
  refine Go.by (fun t9_ q9_ => XS.aloadN W0.here W0.hx rfl (hb hby dc_jdk_42_method_149_code_0) rfl rfl q9_) ?_
  show Go p e below s Z [] _ _ _ (T0.setTop (mkF m 1 #[.val (.ref x), .val (.ref ba), .val (.int (0 : Int32)), .val (.int (4 : Int32)), .val .null, .unset] [(.ref x)]))
  refine W0.initO (wd11 hw) (wd12 hw) (wd13 hw) (by rw [hml]; rfl) (hb hby dc_jdk_42_method_149_code_1) (by decide) (Wt := 0) (Nat.le_of_eq rfl) (by decide) ?_
  intro T527 W528
  show Go p e below s Z [] _ _ _ (T527.setTop (mkF m 4 #[.val (.ref x), .val (.ref ba), .val (.int (0 : Int32)), .val (.int (4 : Int32)), .val .null, .unset] []))
  refine Go.by (fun t9_ q9_ => XS.iloadN W528.here W528.hx rfl (hb hby dc_jdk_42_method_149_code_4) rfl q9_) ?_
  show Go p e below s Z [] _ _ _ (T527.setTop (mkF m 5 #[.val (.ref x), .val (.ref ba), .val (.int (0 : Int32)), .val (.int (4 : Int32)), .val .null, .unset] [(.int (4 : Int32))]))
  refine Go.by (fun t9_ q9_ => XS.ifYes W528.here W528.hx rfl (pc0 := 5) (pc' := 27) rfl (hb hby dc_jdk_42_method_149_code_5) rfl ((if0 _ _).trans (feq (by decide)).2) (by decide) (by decide) q9_) ?_
  show Go p e below s Z [] _ _ _ (T527.setTop (mkF m 27 #[.val (.ref x), .val (.ref ba), .val (.int (0 : Int32)), .val (.int (4 : Int32)), .val .null, .unset] []))
  refine W528.gets (host := "") (Or.inl (wd14 hw)) Via.refl (SG1.ext W528.old) (hb hby dc_jdk_42_method_149_code_27) ?_
  intro T529 W530
  show Go p e below s Z [] _ _ _ (T529.setTop (mkF m 30 #[.val (.ref x), .val (.ref ba), .val (.int (0 : Int32)), .val (.int (4 : Int32)), .val .null, .unset] [(.int G1)]))
  refine Go.by (fun t9_ q9_ => XS.ifNo W530.here W530.hx rfl (hb hby dc_jdk_42_method_149_code_30) rfl ((if0 _ _).trans (feq hG).1) q9_) ?_
  show Go p e below s Z [] _ _ _ (T529.setTop (mkF m 33 #[.val (.ref x), .val (.ref ba), .val (.int (0 : Int32)), .val (.int (4 : Int32)), .val .null, .unset] []))
  refine Go.by (fun t9_ q9_ => XS.aloadN W530.here W530.hx rfl (hb hby dc_jdk_42_method_149_code_33) rfl rfl (XS.iloadN W530.here W530.hx rfl (hb hby dc_jdk_42_method_149_code_34) rfl (XS.iloadN W530.here W530.hx rfl (hb hby dc_jdk_42_method_149_code_35) rfl q9_))) ?_
  show Go p e below s Z [] _ _ _ (T529.setTop (mkF m 36 #[.val (.ref x), .val (.ref ba), .val (.int (0 : Int32)), .val (.int (4 : Int32)), .val .null, .unset] [(.int (4 : Int32)), (.int (0 : Int32)), (.ref ba)]))
  refine W530.callS (y := (⟨"java/lang/StringUTF16", "compress", "([CII)[B"⟩ : MethodName)) (wd15 hw) (wd16 hw) (wd17 hw) (wd18 hw) (by decide) (c_cm3_4 l Z a0 hw hEL h0 W530.old ba kb c0 c1 c2 c3 SAD SHI SLO A_b r0 r1 r2 r3 hbig) all0 (by decide) (by decide) (k' := 2) (n' := 12) rfl rfl (by decide) (by decide) (by rw [hml]; rfl) (argsL := [(.ref ba), (.int (0 : Int32)), (.int (4 : Int32))]) (rest := []) (lenOf pd_4 rfl) rfl rfl (Wt := 0) (Nat.le_of_eq rfl) (hb hby dc_jdk_42_method_149_code_36) ?_
  intro v_ T531 h533 W532 hq_
  obtain ⟨ta, k_ta, rfl, X1, E_ta, A_ta⟩ := hq_
  show Go p e below s Z [] _ _ _ (T531.setTop (mkF m 39 #[.val (.ref x), .val (.ref ba), .val (.int (0 : Int32)), .val (.int (4 : Int32)), .val .null, .unset] [(.ref ta)]))
  refine Go.by (fun t9_ q9_ => XS.astore W532.here W532.hx rfl (hb hby dc_jdk_42_method_149_code_39) rfl rfl (l' := #[.val (.ref x), .val (.ref ba), .val (.int (0 : Int32)), .val (.int (4 : Int32)), .val .null, .val (.ref ta)]) rfl (XS.aloadN W532.here W532.hx rfl (hb hby dc_jdk_42_method_149_code_41) rfl rfl (XS.aload W532.here W532.hx rfl (hb hby dc_jdk_42_method_149_code_42) rfl rfl (XS.iloadN W532.here W532.hx rfl (hb hby dc_jdk_42_method_149_code_44) rfl q9_)))) ?_
  show Go p e below s Z [] _ _ _ (T531.setTop (mkF m 45 #[.val (.ref x), .val (.ref ba), .val (.int (0 : Int32)), .val (.int (4 : Int32)), .val .null, .val (.ref ta)] [(.int (4 : Int32)), (.ref ta), (.ref x)]))
  refine W532.callSp (y := (⟨"java/lang/StringUTF16", "coderFromArrayLen", "([BI)B"⟩ : MethodName)) (wd23 hw) (wd24 hw) (wd17 hw) (wd25 hw) (by decide) (c_cod4 l Z a0 hw hEL h533 W532.old ta k_ta _ A_ta) all0 (by decide) (by decide) (k' := 2) (n' := 12) rfl rfl (by decide) (by decide) (by rw [hml]; rfl) (argsL := [(.ref ta), (.int (4 : Int32))]) (rest := [(.ref x)]) (lenOf pd_6 rfl) rfl rfl (Wt := 1) (Nat.le_of_eq rfl) (hb hby dc_jdk_42_method_149_code_45) ?_
  intro T534 W535
  show Go p e below s Z [] _ _ _ (T534.setTop (mkF m 48 #[.val (.ref x), .val (.ref ba), .val (.int (0 : Int32)), .val (.int (4 : Int32)), .val .null, .val (.ref ta)] [(.int (1 : Int32)), (.ref x)]))
  refine W535.putf (host := "") (Or.inl (wd26 hw)) Via.refl (FC.ext X1) (E_x.ext X1) (Or.inr ⟨(wd27 hw), rfl, hnm⟩) (wd2 hw) (ty := .byte) (by decide) rfl rfl z_x (List.mem_of_getElem? (i := 0) rfl) (hb hby dc_jdk_42_method_149_code_48) ?_
  intro T536 h537 W538 Wr539
  have F540 : Fld Z h537 x "java/lang/String" "coder" "B" (.int (1 : Int32)) := (FC.ext X1).same Wr539
  have F541 : Fld Z h537 x "java/lang/String" "value" "[B" .null := (FV.ext X1).other Wr539 (Or.inr (slot_ne (Or.inr (wd29 hw)) (Or.inr (wd27 hw)) (by decide) (t := (.array .byte)) (t' := .byte) (by decide) (by decide)))
  have A542 : Exa Z h537 x "java/lang/String" := (E_x.ext X1).wr Wr539
  show Go p e below s Z [] _ _ _ (T536.setTop (mkF m 51 #[.val (.ref x), .val (.ref ba), .val (.int (0 : Int32)), .val (.int (4 : Int32)), .val .null, .val (.ref ta)] []))
  refine Go.by (fun t9_ q9_ => XS.aloadN W538.here W538.hx rfl (hb hby dc_jdk_42_method_149_code_51) rfl rfl (XS.aload W538.here W538.hx rfl (hb hby dc_jdk_42_method_149_code_52) rfl rfl q9_)) ?_
  show Go p e below s Z [] _ _ _ (T536.setTop (mkF m 54 #[.val (.ref x), .val (.ref ba), .val (.int (0 : Int32)), .val (.int (4 : Int32)), .val .null, .val (.ref ta)] [(.ref ta), (.ref x)]))
  refine W538.putf (host := "") (Or.inl (wd28 hw)) Via.refl F541 A542 (Or.inr ⟨(wd29 hw), rfl, hnm⟩) (wd2 hw) (ty := (.array .byte)) (by decide) rfl rfl z_x (List.mem_of_getElem? (i := 0) rfl) (hb hby dc_jdk_42_method_149_code_54) ?_
  intro T543 h544 W545 Wr546
  have F547 : Fld Z h544 x "java/lang/String" "value" "[B" (.ref ta) := F541.same Wr546
  have F548 : Fld Z h544 x "java/lang/String" "coder" "B" (.int (1 : Int32)) := F540.other Wr546 (Or.inr (slot_ne (Or.inr (wd27 hw)) (Or.inr (wd29 hw)) (by decide) (t := .byte) (t' := (.array .byte)) (by decide) (by decide)))
  have A549 : Exa Z h544 x "java/lang/String" := A542.wr Wr546
  show Go p e below s Z [] _ _ _ (T543.setTop (mkF m 57 #[.val (.ref x), .val (.ref ba), .val (.int (0 : Int32)), .val (.int (4 : Int32)), .val .null, .val (.ref ta)] []))
  exact W545.retV (by decide) (by decide) hret (hb hby dc_jdk_42_method_149_code_57) ⟨rfl, ((((Keep.refl h0 [x]).ext X1).wr Wr539 (Or.inl (List.mem_of_getElem? (i := 0) rfl))).wr Wr546 (Or.inl (List.mem_of_getElem? (i := 0) rfl))), ta, k_ta, A549, F547, F548, ((A_ta.other Wr539 (Exa.ne E_ta (E_x.ext X1) (by decide))).other Wr546 (Exa.ne (E_ta.wr Wr539) A542 (by decide)))⟩
set_option maxRecDepth 65536 in
set_option maxHeartbeats 40000000 in
theorem c_s16_4 (l : Launch) (Z : State) (a0 : Array Value) (hw : ∀ d ∈ tables_1, d.before a0 Z = true) (hEL : EW Z a0 []) (h0 : Heap) (hE0 : Ext Z.heap h0) (x ba : Addr) (kb : ClassId) (c0 c1 c2 c3 G1 : Int32) (E_x : Exa Z h0 x "java/lang/String") (FV : Fld Z h0 x "java/lang/String" "value" "[B" .null) (FC : Fld Z h0 x "java/lang/String" "coder" "B" (.int 0)) (z_x : Z.heap.size ≤ x) (SAD : Sta Z Z.heap "java/lang/StringUTF16" "$assertionsDisabled" "Z" (.int 1)) (SHI : Sta Z Z.heap "java/lang/StringUTF16" "HI_BYTE_SHIFT" "I" (.int 0)) (SLO : Sta Z Z.heap "java/lang/StringUTF16" "LO_BYTE_SHIFT" "I" (.int 8)) (SG1 : Sta Z Z.heap "java/lang/String" "COMPACT_STRINGS" "Z" (.int G1)) (hG : ¬ G1 = 0) (A_b : Arv Z h0 ba kb .char (4 : Int32) [(.int c0), (.int c1), (.int c2), (.int c3)] (.int (0 : Int32))) (r0 : ¬ c0 < 0 ∧ ¬ (65535 : Int32) < c0) (r1 : ¬ c1 < 0 ∧ ¬ (65535 : Int32) < c1) (r2 : ¬ c2 < 0 ∧ ¬ (65535 : Int32) < c2) (r3 : ¬ c3 < 0 ∧ ¬ (65535 : Int32) < c3) (hbig : (255 : Int32) < c0 ∨ (255 : Int32) < c1 ∨ (255 : Int32) < c2 ∨ (255 : Int32) < c3) :
    Con l Z [] [x] (⟨"java/lang/String", "<init>", "([C)V"⟩ : MethodName) jdk_42_method_3_code 2 none [] ({ frames := 5, cells := 2, slots := 12, locals := 74 } : Room) #[(.ref x), (.ref ba)] h0 (fun v h' => v = none ∧ Keep h0 h' [x] ∧ ∃ ta kt, Exa Z h' x "java/lang/String" ∧ Fld Z h' x "java/lang/String" "value" "[B" (.ref ta) ∧ Fld Z h' x "java/lang/String" "coder" "B" (.int 1) ∧ Arv Z h' ta kt .byte (8 : Int32) [(.int (StrChars.lo8 c0)), (.int (StrChars.hi8 c0)), (.int (StrChars.lo8 c1)), (.int (StrChars.hi8 c1)), (.int (StrChars.lo8 c2)), (.int (StrChars.hi8 c2)), (.int (StrChars.lo8 c3)), (.int (StrChars.hi8 c3))] (.int (0 : Int32))) := by
  refine Con.mk (plainFor_of_name pn_1) hEL hE0 (allS E_x.lt all0) ?_
  intro p e s m below meth c T0 hby hml hret hnm W0
  rw [(show entryFrame m #[(.ref x), (.ref ba)] 2 = mkF m 0 #[.val (.ref x), .val (.ref ba)] [] from by first | (simp [entryFrame, mkF, argsToLocals, Value.category]; done) | rfl)]
  refine Go.by (fun t9_ q9_ => XS.aloadN W0.here W0.hx rfl (hb hby dc_jdk_42_method_3_code_0) rfl rfl (XS.aloadN W0.here W0.hx rfl (hb hby dc_jdk_42_method_3_code_1) rfl rfl (XS.iconst W0.here W0.hx rfl (hb hby dc_jdk_42_method_3_code_2) (XS.aloadN W0.here W0.hx rfl (hb hby dc_jdk_42_method_3_code_3) rfl rfl q9_)))) ?_
  show Go p e below s Z [] _ _ _ (T0.setTop (mkF m 4 #[.val (.ref x), .val (.ref ba)] [(.ref ba), (.int (0 : Int32)), (.ref ba), (.ref x)]))
  refine W0.alen A_b (hb hby dc_jdk_42_method_3_code_4) ?_
  show Go p e below s Z [] _ _ _ (T0.setTop (mkF m 5 #[.val (.ref x), .val (.ref ba)] [(.int (4 : Int32)), (.int (0 : Int32)), (.ref ba), (.ref x)]))
  refine Go.by (fun t9_ q9_ => XS.aconstNull W0.here W0.hx rfl (hb hby dc_jdk_42_method_3_code_5) q9_) ?_
  show Go p e below s Z [] _ _ _ (T0.setTop (mkF m 6 #[.val (.ref x), .val (.ref ba)] [.null, (.int (4 : Int32)), (.int (0 : Int32)), (.ref ba), (.ref x)]))
  refine W0.callI (y := (⟨"java/lang/String", "<init>", "([CIILjava/lang/Void;)V"⟩ : MethodName)) rfl (wd7 hw) (wd8 hw) (wd3 hw) (wd10 hw) (by decide) (a := x) (c_s4_4 l Z a0 hw hEL h0 hE0 x ba kb c0 c1 c2 c3 G1 E_x FV FC z_x SAD SHI SLO SG1 hG A_b r0 r1 r2 r3 hbig) (allS (List.mem_of_getElem? (i := 0) rfl) all0) (by decide) (by decide) (k' := 2) (n' := 12) rfl rfl (by decide) (by decide) (by rw [hml]; rfl) (argsL := [(.ref ba), (.int (0 : Int32)), (.int (4 : Int32)), .null]) (rest := []) (lenOf pd_7 rfl) rfl rfl (Wt := 0) (Nat.le_of_eq rfl) (hb hby dc_jdk_42_method_3_code_6) ?_
  intro v_ T550 h552 W551 hq_
  obtain ⟨rfl, K1, S1⟩ := hq_
  show Go p e below s Z [] _ _ _ (T550.setTop (mkF m 9 #[.val (.ref x), .val (.ref ba)] []))
  exact W551.retV (by decide) (by decide) hret (hb hby dc_jdk_42_method_3_code_9) ⟨rfl, K1, S1⟩
set_option maxRecDepth 65536 in
set_option maxHeartbeats 40000000 in
theorem c_pci (l : Launch) (Z : State) (a0 : Array Value) (hw : ∀ d ∈ tables_1, d.before a0 Z = true) (hEL : EW Z a0 []) (h0 : Heap) (hE0 : Ext Z.heap h0) (ii nn : Int32) (fm : Value) (rfm : fm.isRef = true) (h1 : ¬ ii < 0) (h2 : ii < nn) :
    Con l Z [] [] (⟨"jdk/internal/util/Preconditions", "checkIndex", "(IILjava/util/function/BiFunction;)I"⟩ : MethodName) jdk_41_method_11_code 3 (some .int) [] ({ frames := 0, cells := 0, slots := 0, locals := 0 } : Room) #[(.int ii), (.int nn), fm] h0 (fun v h' => v = (some (.int ii)) ∧ h' = h0) := by
  refine Con.mk (plainFor_of_name pn_2) hEL hE0 (fun x hx => by cases hx) ?_
  intro p e s m below meth c T0 hby hml hret hnm W0
  rw [(show entryFrame m #[(.int ii), (.int nn), fm] 3 = mkF m 0 #[.val (.int ii), .val (.int nn), .val fm] [] from by rcases ref_cases rfm with h_ | ⟨q_, h_⟩ <;> rw [h_] <;> first | (simp [entryFrame, mkF, argsToLocals, Value.category]; done) | rfl)]
  refine Go.by (fun t9_ q9_ => XS.iloadN W0.here W0.hx rfl (hb hby dc_jdk_41_method_11_code_0) rfl q9_) ?_
  show Go p e below s Z [] _ _ _ (T0.setTop (mkF m 1 #[.val (.int ii), .val (.int nn), .val fm] [(.int ii)]))
  refine Go.by (fun t9_ q9_ => XS.ifNo W0.here W0.hx rfl (hb hby dc_jdk_41_method_11_code_1) rfl ((if0 _ _).trans (flt h1).1) q9_) ?_
  show Go p e below s Z [] _ _ _ (T0.setTop (mkF m 4 #[.val (.int ii), .val (.int nn), .val fm] []))
  refine Go.by (fun t9_ q9_ => XS.iloadN W0.here W0.hx rfl (hb hby dc_jdk_41_method_11_code_4) rfl (XS.iloadN W0.here W0.hx rfl (hb hby dc_jdk_41_method_11_code_5) rfl q9_)) ?_
  show Go p e below s Z [] _ _ _ (T0.setTop (mkF m 6 #[.val (.int ii), .val (.int nn), .val fm] [(.int nn), (.int ii)]))
  refine Go.by (fun t9_ q9_ => XS.icmpYes W0.here W0.hx rfl (pc0 := 6) (pc' := 16) rfl (hb hby dc_jdk_41_method_11_code_6) rfl (tlt h2).1 (by decide) (by decide) q9_) ?_
  show Go p e below s Z [] _ _ _ (T0.setTop (mkF m 16 #[.val (.int ii), .val (.int nn), .val fm] []))
  refine Go.by (fun t9_ q9_ => XS.iloadN W0.here W0.hx rfl (hb hby dc_jdk_41_method_11_code_16) rfl q9_) ?_
  show Go p e below s Z [] _ _ _ (T0.setTop (mkF m 17 #[.val (.int ii), .val (.int nn), .val fm] [(.int ii)]))
  exact W0.retI (by decide) (by decide) hret (hb hby dc_jdk_41_method_11_code_17) ⟨rfl, rfl⟩
set_option maxRecDepth 65536 in
set_option maxHeartbeats 40000000 in
theorem c_sci (l : Launch) (Z : State) (a0 : Array Value) (hw : ∀ d ∈ tables_1, d.before a0 Z = true) (hEL : EW Z a0 []) (h0 : Heap) (hE0 : Ext Z.heap h0) (ii nn : Int32) (fm : Value) (SFM : Sta Z Z.heap "jdk/internal/util/Preconditions" "SIOOBE_FORMATTER" "Ljava/util/function/BiFunction;" fm) (rfm : fm.isRef = true) (h1 : ¬ ii < 0) (h2 : ii < nn) :
    Con l Z [] [] (⟨"java/lang/String", "checkIndex", "(II)V"⟩ : MethodName) jdk_42_method_155_code 2 none [] ({ frames := 1, cells := 0, slots := 0, locals := 14 } : Room) #[(.int ii), (.int nn)] h0 (fun v h' => v = none ∧ h' = h0) := by
  refine Con.mk (plainFor_of_name pn_1) hEL hE0 (fun x hx => by cases hx) ?_
  intro p e s m below meth c T0 hby hml hret hnm W0
  rw [(show entryFrame m #[(.int ii), (.int nn)] 2 = mkF m 0 #[.val (.int ii), .val (.int nn)] [] from by first | (simp [entryFrame, mkF, argsToLocals, Value.category]; done) | rfl)]
  refine Go.by (fun t9_ q9_ => XS.iloadN W0.here W0.hx rfl (hb hby dc_jdk_42_method_155_code_0) rfl (XS.iloadN W0.here W0.hx rfl (hb hby dc_jdk_42_method_155_code_1) rfl q9_)) ?_
  show Go p e below s Z [] _ _ _ (T0.setTop (mkF m 2 #[.val (.int ii), .val (.int nn)] [(.int nn), (.int ii)]))
  refine W0.gets (host := "") (Or.inl (wd74 hw)) Via.refl (SFM.ext W0.old) (hb hby dc_jdk_42_method_155_code_2) ?_
  intro T553 W554
  show Go p e below s Z [] _ _ _ (T553.setTop (mkF m 5 #[.val (.int ii), .val (.int nn)] [fm, (.int nn), (.int ii)]))
  refine W554.callSp (y := (⟨"jdk/internal/util/Preconditions", "checkIndex", "(IILjava/util/function/BiFunction;)I"⟩ : MethodName)) (wd76 hw) (wd77 hw) (wd75 hw) (wd78 hw) (by decide) (c_pci l Z a0 hw hEL h0 W554.old ii nn fm rfm h1 h2) all0 (by decide) (by decide) (k' := 0) (n' := 0) rfl rfl (by decide) (by decide) (by rw [hml]; rfl) (argsL := [(.int ii), (.int nn), fm]) (rest := []) (lenOf pd_8 rfl) rfl rfl (Wt := 0) (Nat.le_of_eq rfl) (hb hby dc_jdk_42_method_155_code_5) ?_
  intro T555 W556
  show Go p e below s Z [] _ _ _ (T555.setTop (mkF m 8 #[.val (.int ii), .val (.int nn)] [(.int ii)]))
  refine Go.by (fun t9_ q9_ => XS.pop W556.here W556.hx rfl (hb hby dc_jdk_42_method_155_code_8) rfl rfl q9_) ?_
  show Go p e below s Z [] _ _ _ (T555.setTop (mkF m 9 #[.val (.int ii), .val (.int nn)] []))
  exact W556.retV (by decide) (by decide) hret (hb hby dc_jdk_42_method_155_code_9) ⟨rfl, rfl⟩
set_option maxRecDepth 65536 in
set_option maxHeartbeats 40000000 in
theorem c_isl (l : Launch) (Z : State) (a0 : Array Value) (hw : ∀ d ∈ tables_1, d.before a0 Z = true) (hEL : EW Z a0 []) (h0 : Heap) (hE0 : Ext Z.heap h0) (xa : Addr) (G1 : Int32) (SG1 : Sta Z Z.heap "java/lang/String" "COMPACT_STRINGS" "Z" (.int G1)) (hG : ¬ G1 = 0) (FC : Fld Z h0 xa "java/lang/String" "coder" "B" (.int 1)) :
    Con l Z [] [] (⟨"java/lang/String", "isLatin1", "()Z"⟩ : MethodName) jdk_42_method_154_code 1 (some .boolean) [] ({ frames := 0, cells := 0, slots := 0, locals := 0 } : Room) #[(.ref xa)] h0 (fun v h' => v = (some (.int 0)) ∧ h' = h0) := by
  refine Con.mk (plainFor_of_name pn_1) hEL hE0 (fun x hx => by cases hx) ?_
  intro p e s m below meth c T0 hby hml hret hnm W0
  rw [(show entryFrame m #[(.ref xa)] 1 = mkF m 0 #[.val (.ref xa)] [] from by first | (simp [entryFrame, mkF, argsToLocals, Value.category]; done) | rfl)]
  refine W0.gets (host := "") (Or.inl (wd14 hw)) Via.refl (SG1.ext W0.old) (hb hby dc_jdk_42_method_154_code_0) ?_
  intro T557 W558
  show Go p e below s Z [] _ _ _ (T557.setTop (mkF m 3 #[.val (.ref xa)] [(.int G1)]))
  refine Go.by (fun t9_ q9_ => XS.ifNo W558.here W558.hx rfl (hb hby dc_jdk_42_method_154_code_3) rfl ((if0 _ _).trans (feq hG).1) q9_) ?_
  show Go p e below s Z [] _ _ _ (T557.setTop (mkF m 6 #[.val (.ref xa)] []))
  refine Go.by (fun t9_ q9_ => XS.aloadN W558.here W558.hx rfl (hb hby dc_jdk_42_method_154_code_6) rfl rfl q9_) ?_
  show Go p e below s Z [] _ _ _ (T557.setTop (mkF m 7 #[.val (.ref xa)] [(.ref xa)]))
  refine W558.getf (host := "") (Or.inl (wd26 hw)) Via.refl FC (hb hby dc_jdk_42_method_154_code_7) ?_
  intro T559 W560
  show Go p e below s Z [] _ _ _ (T559.setTop (mkF m 10 #[.val (.ref xa)] [(.int (1 : Int32))]))
  refine Go.by (fun t9_ q9_ => XS.ifYes W560.here W560.hx rfl (pc0 := 10) (pc' := 17) rfl (hb hby dc_jdk_42_method_154_code_10) rfl ((if0 _ _).trans (feq (by decide)).2) (by decide) (by decide) q9_) ?_
  show Go p e below s Z [] _ _ _ (T559.setTop (mkF m 17 #[.val (.ref xa)] []))
  refine Go.by (fun t9_ q9_ => XS.iconst W560.here W560.hx rfl (hb hby dc_jdk_42_method_154_code_17) q9_) ?_
  show Go p e below s Z [] _ _ _ (T559.setTop (mkF m 18 #[.val (.ref xa)] [(.int (0 : Int32))]))
  exact W560.retN (z' := (0 : Int32)) (by decide) (by decide) hret (by simp) (hb hby dc_jdk_42_method_154_code_18) rfl ⟨rfl, rfl⟩
set_option maxRecDepth 65536 in
set_option maxHeartbeats 40000000 in
theorem c_l16_1 (l : Launch) (Z : State) (a0 : Array Value) (hw : ∀ d ∈ tables_1, d.before a0 Z = true) (hEL : EW Z a0 []) (h0 : Heap) (hE0 : Ext Z.heap h0) (ta : Addr) (k_ta : ClassId) (vs : List Value) (A_t : Arv Z h0 ta k_ta .byte (2 : Int32) vs (.int (0 : Int32))) :
    Con l Z [] [] (⟨"java/lang/StringUTF16", "length", "([B)I"⟩ : MethodName) jdk_52_method_6_code 1 (some .int) [] ({ frames := 0, cells := 0, slots := 0, locals := 0 } : Room) #[(.ref ta)] h0 (fun v h' => v = (some (.int (1 : Int32))) ∧ h' = h0) := by
  refine Con.mk (plainFor_of_name pn_0) hEL hE0 (fun x hx => by cases hx) ?_
  intro p e s m below meth c T0 hby hml hret hnm W0
  rw [(show entryFrame m #[(.ref ta)] 1 = mkF m 0 #[.val (.ref ta)] [] from by first | (simp [entryFrame, mkF, argsToLocals, Value.category]; done) | rfl)]
  refine Go.by (fun t9_ q9_ => XS.aloadN W0.here W0.hx rfl (hb hby dc_jdk_52_method_6_code_0) rfl rfl q9_) ?_
  show Go p e below s Z [] _ _ _ (T0.setTop (mkF m 1 #[.val (.ref ta)] [(.ref ta)]))
  refine W0.alen A_t (hb hby dc_jdk_52_method_6_code_1) ?_
  show Go p e below s Z [] _ _ _ (T0.setTop (mkF m 2 #[.val (.ref ta)] [(.int (2 : Int32))]))
  refine Go.by (fun t9_ q9_ => XS.iconst W0.here W0.hx rfl (hb hby dc_jdk_52_method_6_code_2) (XS.ishr W0.here W0.hx rfl (hb hby dc_jdk_52_method_6_code_3) rfl q9_)) ?_
  show Go p e below s Z [] _ _ _ (T0.setTop (mkF m 4 #[.val (.ref ta)] [(.int ((2 : Int32) >>> ((1 : Int32) &&& 31)))]))
  rw [show ((2 : Int32) >>> ((1 : Int32) &&& 31)) = (1 : Int32) from by decide]
  show Go p e below s Z [] _ _ _ (T0.setTop (mkF m 4 #[.val (.ref ta)] [(.int (1 : Int32))]))
  exact W0.retI (by decide) (by decide) hret (hb hby dc_jdk_52_method_6_code_4) ⟨rfl, rfl⟩
set_option maxRecDepth 65536 in
set_option maxHeartbeats 40000000 in
theorem c_uci1 (l : Launch) (Z : State) (a0 : Array Value) (hw : ∀ d ∈ tables_1, d.before a0 Z = true) (hEL : EW Z a0 []) (h0 : Heap) (hE0 : Ext Z.heap h0) (ii : Int32) (ta : Addr) (k_ta : ClassId) (vs : List Value) (fm : Value) (SFM : Sta Z Z.heap "jdk/internal/util/Preconditions" "SIOOBE_FORMATTER" "Ljava/util/function/BiFunction;" fm) (rfm : fm.isRef = true) (A_t : Arv Z h0 ta k_ta .byte (2 : Int32) vs (.int (0 : Int32))) (h1 : ¬ ii < 0) (h2 : ii < (1 : Int32)) :
    Con l Z [] [] (⟨"java/lang/StringUTF16", "checkIndex", "(I[B)V"⟩ : MethodName) jdk_52_method_91_code 2 none [] ({ frames := 2, cells := 0, slots := 0, locals := 27 } : Room) #[(.int ii), (.ref ta)] h0 (fun v h' => v = none ∧ h' = h0) := by
  refine Con.mk (plainFor_of_name pn_0) hEL hE0 (fun x hx => by cases hx) ?_
  intro p e s m below meth c T0 hby hml hret hnm W0
  rw [(show entryFrame m #[(.int ii), (.ref ta)] 2 = mkF m 0 #[.val (.int ii), .val (.ref ta)] [] from by first | (simp [entryFrame, mkF, argsToLocals, Value.category]; done) | rfl)]
  refine Go.by (fun t9_ q9_ => XS.iloadN W0.here W0.hx rfl (hb hby dc_jdk_52_method_91_code_0) rfl (XS.aloadN W0.here W0.hx rfl (hb hby dc_jdk_52_method_91_code_1) rfl rfl q9_)) ?_
  show Go p e below s Z [] _ _ _ (T0.setTop (mkF m 2 #[.val (.int ii), .val (.ref ta)] [(.ref ta), (.int ii)]))
  refine W0.callSp (y := (⟨"java/lang/StringUTF16", "length", "([B)I"⟩ : MethodName)) (wd104 hw) (wd105 hw) (wd17 hw) (wd106 hw) (by decide) (c_l16_1 l Z a0 hw hEL h0 hE0 ta k_ta vs A_t) all0 (by decide) (by decide) (k' := 0) (n' := 0) rfl rfl (by decide) (by decide) (by rw [hml]; rfl) (argsL := [(.ref ta)]) (rest := [(.int ii)]) (lenOf pd_9 rfl) rfl rfl (Wt := 1) (Nat.le_of_eq rfl) (hb hby dc_jdk_52_method_91_code_2) ?_
  intro T561 W562
  show Go p e below s Z [] _ _ _ (T561.setTop (mkF m 5 #[.val (.int ii), .val (.ref ta)] [(.int (1 : Int32)), (.int ii)]))
  refine W562.callSp (y := (⟨"java/lang/String", "checkIndex", "(II)V"⟩ : MethodName)) (wd107 hw) (wd72 hw) (wd3 hw) (wd73 hw) (by decide) (c_sci l Z a0 hw hEL h0 W562.old ii (1 : Int32) fm SFM rfm h1 h2) all0 (by decide) (by decide) (k' := 0) (n' := 0) rfl rfl (by decide) (by decide) (by rw [hml]; rfl) (argsL := [(.int ii), (.int (1 : Int32))]) (rest := []) (lenOf pd_10 rfl) rfl rfl (Wt := 0) (Nat.le_of_eq rfl) (hb hby dc_jdk_52_method_91_code_5) ?_
  intro T563 W564
  show Go p e below s Z [] _ _ _ (T563.setTop (mkF m 8 #[.val (.int ii), .val (.ref ta)] []))
  exact W564.retV (by decide) (by decide) hret (hb hby dc_jdk_52_method_91_code_8) ⟨rfl, rfl⟩
set_option maxRecDepth 65536 in
set_option maxHeartbeats 40000000 in
theorem c_uca1_0 (l : Launch) (Z : State) (a0 : Array Value) (hw : ∀ d ∈ tables_1, d.before a0 Z = true) (hEL : EW Z a0 []) (h0 : Heap) (hE0 : Ext Z.heap h0) (ta : Addr) (k_ta : ClassId) (vs : List Value) (uu vv cc : Int32) (fm : Value) (SAD : Sta Z Z.heap "java/lang/StringUTF16" "$assertionsDisabled" "Z" (.int 1)) (SHI : Sta Z Z.heap "java/lang/StringUTF16" "HI_BYTE_SHIFT" "I" (.int 0)) (SLO : Sta Z Z.heap "java/lang/StringUTF16" "LO_BYTE_SHIFT" "I" (.int 8)) (SFM : Sta Z Z.heap "jdk/internal/util/Preconditions" "SIOOBE_FORMATTER" "Ljava/util/function/BiFunction;" fm) (rfm : fm.isRef = true) (A_t : Arv Z h0 ta k_ta .byte (2 : Int32) vs (.int (0 : Int32))) (hu : vs.getD 0 (.int (0 : Int32)) = .int uu) (hv : vs.getD 1 (.int (0 : Int32)) = .int vv) (hp : StrChars.pairCh uu vv = cc) (r_c : ¬ cc < 0 ∧ ¬ (65535 : Int32) < cc) :
    Con l Z [] [] (⟨"java/lang/StringUTF16", "charAt", "([BI)C"⟩ : MethodName) jdk_52_method_83_code 2 (some .char) [] ({ frames := 3, cells := 0, slots := 0, locals := 40 } : Room) #[(.ref ta), (.int (0 : Int32))] h0 (fun v h' => v = (some (.int cc)) ∧ h' = h0) := by
  refine Con.mk (plainFor_of_name pn_0) hEL hE0 (fun x hx => by cases hx) ?_
  intro p e s m below meth c T0 hby hml hret hnm W0
  rw [(show entryFrame m #[(.ref ta), (.int (0 : Int32))] 2 = mkF m 0 #[.val (.ref ta), .val (.int (0 : Int32))] [] from by first | (simp [entryFrame, mkF, argsToLocals, Value.category]; done) | rfl)]
  refine Go.by (fun t9_ q9_ => XS.iloadN W0.here W0.hx rfl (hb hby dc_jdk_52_method_83_code_0) rfl (XS.aloadN W0.here W0.hx rfl (hb hby dc_jdk_52_method_83_code_1) rfl rfl q9_)) ?_
  show Go p e below s Z [] _ _ _ (T0.setTop (mkF m 2 #[.val (.ref ta), .val (.int (0 : Int32))] [(.ref ta), (.int (0 : Int32))]))
  refine W0.callSp (y := (⟨"java/lang/StringUTF16", "checkIndex", "(I[B)V"⟩ : MethodName)) (wd101 hw) (wd102 hw) (wd17 hw) (wd103 hw) (by decide) (c_uci1 l Z a0 hw hEL h0 hE0 (0 : Int32) ta k_ta vs fm SFM rfm A_t (by decide) (by decide)) all0 (by decide) (by decide) (k' := 0) (n' := 0) rfl rfl (by decide) (by decide) (by rw [hml]; rfl) (argsL := [(.int (0 : Int32)), (.ref ta)]) (rest := []) (lenOf pd_11 rfl) rfl rfl (Wt := 0) (Nat.le_of_eq rfl) (hb hby dc_jdk_52_method_83_code_2) ?_
  intro T565 W566
  show Go p e below s Z [] _ _ _ (T565.setTop (mkF m 5 #[.val (.ref ta), .val (.int (0 : Int32))] []))
  refine Go.by (fun t9_ q9_ => XS.aloadN W566.here W566.hx rfl (hb hby dc_jdk_52_method_83_code_5) rfl rfl (XS.iloadN W566.here W566.hx rfl (hb hby dc_jdk_52_method_83_code_6) rfl q9_)) ?_
  show Go p e below s Z [] _ _ _ (T565.setTop (mkF m 7 #[.val (.ref ta), .val (.int (0 : Int32))] [(.int (0 : Int32)), (.ref ta)]))
  refine W566.callSp (y := (⟨"java/lang/StringUTF16", "getChar", "([BI)C"⟩ : MethodName)) (wd95 hw) (wd96 hw) (wd17 hw) (wd97 hw) (by decide) (c_get1_0 l Z a0 hw hEL h0 W566.old ta k_ta vs uu vv cc SAD SHI SLO A_t hu hv hp r_c) all0 (by decide) (by decide) (k' := 0) (n' := 0) rfl rfl (by decide) (by decide) (by rw [hml]; rfl) (argsL := [(.ref ta), (.int (0 : Int32))]) (rest := []) (lenOf pd_5 rfl) rfl rfl (Wt := 0) (Nat.le_of_eq rfl) (hb hby dc_jdk_52_method_83_code_7) ?_
  intro T567 W568
  show Go p e below s Z [] _ _ _ (T567.setTop (mkF m 10 #[.val (.ref ta), .val (.int (0 : Int32))] [(.int cc)]))
  exact W568.retN (z' := cc) (by decide) (by decide) hret (by simp) (hb hby dc_jdk_52_method_83_code_10) (nar_id r_c) ⟨rfl, rfl⟩
set_option maxRecDepth 65536 in
set_option maxHeartbeats 40000000 in
theorem c_at1_0 (l : Launch) (Z : State) (a0 : Array Value) (hw : ∀ d ∈ tables_1, d.before a0 Z = true) (hEL : EW Z a0 []) (h0 : Heap) (hE0 : Ext Z.heap h0) (xa ta : Addr) (k_ta : ClassId) (vs : List Value) (uu vv cc G1 : Int32) (fm : Value) (SG1 : Sta Z Z.heap "java/lang/String" "COMPACT_STRINGS" "Z" (.int G1)) (hG : ¬ G1 = 0) (SAD : Sta Z Z.heap "java/lang/StringUTF16" "$assertionsDisabled" "Z" (.int 1)) (SHI : Sta Z Z.heap "java/lang/StringUTF16" "HI_BYTE_SHIFT" "I" (.int 0)) (SLO : Sta Z Z.heap "java/lang/StringUTF16" "LO_BYTE_SHIFT" "I" (.int 8)) (SFM : Sta Z Z.heap "jdk/internal/util/Preconditions" "SIOOBE_FORMATTER" "Ljava/util/function/BiFunction;" fm) (rfm : fm.isRef = true) (E_x : Exa Z h0 xa "java/lang/String") (FV : Fld Z h0 xa "java/lang/String" "value" "[B" (.ref ta)) (FC : Fld Z h0 xa "java/lang/String" "coder" "B" (.int 1)) (A_t : Arv Z h0 ta k_ta .byte (2 : Int32) vs (.int (0 : Int32))) (hu : vs.getD 0 (.int (0 : Int32)) = .int uu) (hv : vs.getD 1 (.int (0 : Int32)) = .int vv) (hp : StrChars.pairCh uu vv = cc) (r_c : ¬ cc < 0 ∧ ¬ (65535 : Int32) < cc) :
    Con l Z [] [] (⟨"java/lang/String", "charAt", "(I)C"⟩ : MethodName) jdk_42_method_56_code 2 (some .char) [] ({ frames := 4, cells := 0, slots := 0, locals := 53 } : Room) #[(.ref xa), (.int (0 : Int32))] h0 (fun v h' => v = (some (.int cc)) ∧ h' = h0) := by
  refine Con.mk (plainFor_of_name pn_1) hEL hE0 (fun x hx => by cases hx) ?_
  intro p e s m below meth c T0 hby hml hret hnm W0
  rw [(show entryFrame m #[(.ref xa), (.int (0 : Int32))] 2 = mkF m 0 #[.val (.ref xa), .val (.int (0 : Int32))] [] from by first | (simp [entryFrame, mkF, argsToLocals, Value.category]; done) | rfl)]
  refine Go.by (fun t9_ q9_ => XS.aloadN W0.here W0.hx rfl (hb hby dc_jdk_42_method_56_code_0) rfl rfl q9_) ?_
  show Go p e below s Z [] _ _ _ (T0.setTop (mkF m 1 #[.val (.ref xa), .val (.int (0 : Int32))] [(.ref xa)]))
  refine W0.callVp (y := (⟨"java/lang/String", "isLatin1", "()Z"⟩ : MethodName)) (z := (⟨"java/lang/String", "isLatin1", "()Z"⟩ : MethodName)) (wd62 hw) (wd63 hw) (nf_sel rfl (wd65 hw)) (wd65 hw) (wd64 hw) (wd3 hw) (wd66 hw) (by decide) E_x (a := xa) (c_isl l Z a0 hw hEL h0 hE0 xa G1 SG1 hG FC) all0 (by decide) (by decide) (k' := 0) (n' := 0) rfl rfl (by decide) (by decide) (by rw [hml]; rfl) (argsL := []) (rest := []) (lenOf pd_12 rfl) rfl rfl (Wt := 0) (Nat.le_of_eq rfl) (hb hby dc_jdk_42_method_56_code_1) ?_
  intro T569 W570
  show Go p e below s Z [] _ _ _ (T569.setTop (mkF m 4 #[.val (.ref xa), .val (.int (0 : Int32))] [(.int (0 : Int32))]))
  refine Go.by (fun t9_ q9_ => XS.ifYes W570.here W570.hx rfl (pc0 := 4) (pc' := 16) rfl (hb hby dc_jdk_42_method_56_code_4) rfl ((if0 _ _).trans (teq rfl).1) (by decide) (by decide) q9_) ?_
  show Go p e below s Z [] _ _ _ (T569.setTop (mkF m 16 #[.val (.ref xa), .val (.int (0 : Int32))] []))
  refine Go.by (fun t9_ q9_ => XS.aloadN W570.here W570.hx rfl (hb hby dc_jdk_42_method_56_code_16) rfl rfl q9_) ?_
  show Go p e below s Z [] _ _ _ (T569.setTop (mkF m 17 #[.val (.ref xa), .val (.int (0 : Int32))] [(.ref xa)]))
  refine W570.getf (host := "") (Or.inl (wd28 hw)) Via.refl FV (hb hby dc_jdk_42_method_56_code_17) ?_
  intro T571 W572
  show Go p e below s Z [] _ _ _ (T571.setTop (mkF m 20 #[.val (.ref xa), .val (.int (0 : Int32))] [(.ref ta)]))
  refine Go.by (fun t9_ q9_ => XS.iloadN W572.here W572.hx rfl (hb hby dc_jdk_42_method_56_code_20) rfl q9_) ?_
  show Go p e below s Z [] _ _ _ (T571.setTop (mkF m 21 #[.val (.ref xa), .val (.int (0 : Int32))] [(.int (0 : Int32)), (.ref ta)]))
  refine W572.callSp (y := (⟨"java/lang/StringUTF16", "charAt", "([BI)C"⟩ : MethodName)) (wd98 hw) (wd99 hw) (wd17 hw) (wd100 hw) (by decide) (c_uca1_0 l Z a0 hw hEL h0 W572.old ta k_ta vs uu vv cc fm SAD SHI SLO SFM rfm A_t hu hv hp r_c) all0 (by decide) (by decide) (k' := 0) (n' := 0) rfl rfl (by decide) (by decide) (by rw [hml]; rfl) (argsL := [(.ref ta), (.int (0 : Int32))]) (rest := []) (lenOf pd_5 rfl) rfl rfl (Wt := 0) (Nat.le_of_eq rfl) (hb hby dc_jdk_42_method_56_code_21) ?_
  intro T573 W574
  show Go p e below s Z [] _ _ _ (T573.setTop (mkF m 24 #[.val (.ref xa), .val (.int (0 : Int32))] [(.int cc)]))
  exact W574.retN (z' := cc) (by decide) (by decide) hret (by simp) (hb hby dc_jdk_42_method_56_code_24) (nar_id r_c) ⟨rfl, rfl⟩
set_option maxRecDepth 65536 in
set_option maxHeartbeats 40000000 in
theorem c_l16_2 (l : Launch) (Z : State) (a0 : Array Value) (hw : ∀ d ∈ tables_1, d.before a0 Z = true) (hEL : EW Z a0 []) (h0 : Heap) (hE0 : Ext Z.heap h0) (ta : Addr) (k_ta : ClassId) (vs : List Value) (A_t : Arv Z h0 ta k_ta .byte (4 : Int32) vs (.int (0 : Int32))) :
    Con l Z [] [] (⟨"java/lang/StringUTF16", "length", "([B)I"⟩ : MethodName) jdk_52_method_6_code 1 (some .int) [] ({ frames := 0, cells := 0, slots := 0, locals := 0 } : Room) #[(.ref ta)] h0 (fun v h' => v = (some (.int (2 : Int32))) ∧ h' = h0) := by
  refine Con.mk (plainFor_of_name pn_0) hEL hE0 (fun x hx => by cases hx) ?_
  intro p e s m below meth c T0 hby hml hret hnm W0
  rw [(show entryFrame m #[(.ref ta)] 1 = mkF m 0 #[.val (.ref ta)] [] from by first | (simp [entryFrame, mkF, argsToLocals, Value.category]; done) | rfl)]
  refine Go.by (fun t9_ q9_ => XS.aloadN W0.here W0.hx rfl (hb hby dc_jdk_52_method_6_code_0) rfl rfl q9_) ?_
  show Go p e below s Z [] _ _ _ (T0.setTop (mkF m 1 #[.val (.ref ta)] [(.ref ta)]))
  refine W0.alen A_t (hb hby dc_jdk_52_method_6_code_1) ?_
  show Go p e below s Z [] _ _ _ (T0.setTop (mkF m 2 #[.val (.ref ta)] [(.int (4 : Int32))]))
  refine Go.by (fun t9_ q9_ => XS.iconst W0.here W0.hx rfl (hb hby dc_jdk_52_method_6_code_2) (XS.ishr W0.here W0.hx rfl (hb hby dc_jdk_52_method_6_code_3) rfl q9_)) ?_
  show Go p e below s Z [] _ _ _ (T0.setTop (mkF m 4 #[.val (.ref ta)] [(.int ((4 : Int32) >>> ((1 : Int32) &&& 31)))]))
  rw [show ((4 : Int32) >>> ((1 : Int32) &&& 31)) = (2 : Int32) from by decide]
  show Go p e below s Z [] _ _ _ (T0.setTop (mkF m 4 #[.val (.ref ta)] [(.int (2 : Int32))]))
  exact W0.retI (by decide) (by decide) hret (hb hby dc_jdk_52_method_6_code_4) ⟨rfl, rfl⟩
set_option maxRecDepth 65536 in
set_option maxHeartbeats 40000000 in
theorem c_uci2 (l : Launch) (Z : State) (a0 : Array Value) (hw : ∀ d ∈ tables_1, d.before a0 Z = true) (hEL : EW Z a0 []) (h0 : Heap) (hE0 : Ext Z.heap h0) (ii : Int32) (ta : Addr) (k_ta : ClassId) (vs : List Value) (fm : Value) (SFM : Sta Z Z.heap "jdk/internal/util/Preconditions" "SIOOBE_FORMATTER" "Ljava/util/function/BiFunction;" fm) (rfm : fm.isRef = true) (A_t : Arv Z h0 ta k_ta .byte (4 : Int32) vs (.int (0 : Int32))) (h1 : ¬ ii < 0) (h2 : ii < (2 : Int32)) :
    Con l Z [] [] (⟨"java/lang/StringUTF16", "checkIndex", "(I[B)V"⟩ : MethodName) jdk_52_method_91_code 2 none [] ({ frames := 2, cells := 0, slots := 0, locals := 27 } : Room) #[(.int ii), (.ref ta)] h0 (fun v h' => v = none ∧ h' = h0) := by
  refine Con.mk (plainFor_of_name pn_0) hEL hE0 (fun x hx => by cases hx) ?_
  intro p e s m below meth c T0 hby hml hret hnm W0
  rw [(show entryFrame m #[(.int ii), (.ref ta)] 2 = mkF m 0 #[.val (.int ii), .val (.ref ta)] [] from by first | (simp [entryFrame, mkF, argsToLocals, Value.category]; done) | rfl)]
  refine Go.by (fun t9_ q9_ => XS.iloadN W0.here W0.hx rfl (hb hby dc_jdk_52_method_91_code_0) rfl (XS.aloadN W0.here W0.hx rfl (hb hby dc_jdk_52_method_91_code_1) rfl rfl q9_)) ?_
  show Go p e below s Z [] _ _ _ (T0.setTop (mkF m 2 #[.val (.int ii), .val (.ref ta)] [(.ref ta), (.int ii)]))
  refine W0.callSp (y := (⟨"java/lang/StringUTF16", "length", "([B)I"⟩ : MethodName)) (wd104 hw) (wd105 hw) (wd17 hw) (wd106 hw) (by decide) (c_l16_2 l Z a0 hw hEL h0 hE0 ta k_ta vs A_t) all0 (by decide) (by decide) (k' := 0) (n' := 0) rfl rfl (by decide) (by decide) (by rw [hml]; rfl) (argsL := [(.ref ta)]) (rest := [(.int ii)]) (lenOf pd_9 rfl) rfl rfl (Wt := 1) (Nat.le_of_eq rfl) (hb hby dc_jdk_52_method_91_code_2) ?_
  intro T575 W576
  show Go p e below s Z [] _ _ _ (T575.setTop (mkF m 5 #[.val (.int ii), .val (.ref ta)] [(.int (2 : Int32)), (.int ii)]))
  refine W576.callSp (y := (⟨"java/lang/String", "checkIndex", "(II)V"⟩ : MethodName)) (wd107 hw) (wd72 hw) (wd3 hw) (wd73 hw) (by decide) (c_sci l Z a0 hw hEL h0 W576.old ii (2 : Int32) fm SFM rfm h1 h2) all0 (by decide) (by decide) (k' := 0) (n' := 0) rfl rfl (by decide) (by decide) (by rw [hml]; rfl) (argsL := [(.int ii), (.int (2 : Int32))]) (rest := []) (lenOf pd_10 rfl) rfl rfl (Wt := 0) (Nat.le_of_eq rfl) (hb hby dc_jdk_52_method_91_code_5) ?_
  intro T577 W578
  show Go p e below s Z [] _ _ _ (T577.setTop (mkF m 8 #[.val (.int ii), .val (.ref ta)] []))
  exact W578.retV (by decide) (by decide) hret (hb hby dc_jdk_52_method_91_code_8) ⟨rfl, rfl⟩
set_option maxRecDepth 65536 in
set_option maxHeartbeats 40000000 in
theorem c_uca2_0 (l : Launch) (Z : State) (a0 : Array Value) (hw : ∀ d ∈ tables_1, d.before a0 Z = true) (hEL : EW Z a0 []) (h0 : Heap) (hE0 : Ext Z.heap h0) (ta : Addr) (k_ta : ClassId) (vs : List Value) (uu vv cc : Int32) (fm : Value) (SAD : Sta Z Z.heap "java/lang/StringUTF16" "$assertionsDisabled" "Z" (.int 1)) (SHI : Sta Z Z.heap "java/lang/StringUTF16" "HI_BYTE_SHIFT" "I" (.int 0)) (SLO : Sta Z Z.heap "java/lang/StringUTF16" "LO_BYTE_SHIFT" "I" (.int 8)) (SFM : Sta Z Z.heap "jdk/internal/util/Preconditions" "SIOOBE_FORMATTER" "Ljava/util/function/BiFunction;" fm) (rfm : fm.isRef = true) (A_t : Arv Z h0 ta k_ta .byte (4 : Int32) vs (.int (0 : Int32))) (hu : vs.getD 0 (.int (0 : Int32)) = .int uu) (hv : vs.getD 1 (.int (0 : Int32)) = .int vv) (hp : StrChars.pairCh uu vv = cc) (r_c : ¬ cc < 0 ∧ ¬ (65535 : Int32) < cc) :
    Con l Z [] [] (⟨"java/lang/StringUTF16", "charAt", "([BI)C"⟩ : MethodName) jdk_52_method_83_code 2 (some .char) [] ({ frames := 3, cells := 0, slots := 0, locals := 40 } : Room) #[(.ref ta), (.int (0 : Int32))] h0 (fun v h' => v = (some (.int cc)) ∧ h' = h0) := by
  refine Con.mk (plainFor_of_name pn_0) hEL hE0 (fun x hx => by cases hx) ?_
  intro p e s m below meth c T0 hby hml hret hnm W0
  rw [(show entryFrame m #[(.ref ta), (.int (0 : Int32))] 2 = mkF m 0 #[.val (.ref ta), .val (.int (0 : Int32))] [] from by first | (simp [entryFrame, mkF, argsToLocals, Value.category]; done) | rfl)]
  refine Go.by (fun t9_ q9_ => XS.iloadN W0.here W0.hx rfl (hb hby dc_jdk_52_method_83_code_0) rfl (XS.aloadN W0.here W0.hx rfl (hb hby dc_jdk_52_method_83_code_1) rfl rfl q9_)) ?_
  show Go p e below s Z [] _ _ _ (T0.setTop (mkF m 2 #[.val (.ref ta), .val (.int (0 : Int32))] [(.ref ta), (.int (0 : Int32))]))
  refine W0.callSp (y := (⟨"java/lang/StringUTF16", "checkIndex", "(I[B)V"⟩ : MethodName)) (wd101 hw) (wd102 hw) (wd17 hw) (wd103 hw) (by decide) (c_uci2 l Z a0 hw hEL h0 hE0 (0 : Int32) ta k_ta vs fm SFM rfm A_t (by decide) (by decide)) all0 (by decide) (by decide) (k' := 0) (n' := 0) rfl rfl (by decide) (by decide) (by rw [hml]; rfl) (argsL := [(.int (0 : Int32)), (.ref ta)]) (rest := []) (lenOf pd_11 rfl) rfl rfl (Wt := 0) (Nat.le_of_eq rfl) (hb hby dc_jdk_52_method_83_code_2) ?_
  intro T579 W580
  show Go p e below s Z [] _ _ _ (T579.setTop (mkF m 5 #[.val (.ref ta), .val (.int (0 : Int32))] []))
  refine Go.by (fun t9_ q9_ => XS.aloadN W580.here W580.hx rfl (hb hby dc_jdk_52_method_83_code_5) rfl rfl (XS.iloadN W580.here W580.hx rfl (hb hby dc_jdk_52_method_83_code_6) rfl q9_)) ?_
  show Go p e below s Z [] _ _ _ (T579.setTop (mkF m 7 #[.val (.ref ta), .val (.int (0 : Int32))] [(.int (0 : Int32)), (.ref ta)]))
  refine W580.callSp (y := (⟨"java/lang/StringUTF16", "getChar", "([BI)C"⟩ : MethodName)) (wd95 hw) (wd96 hw) (wd17 hw) (wd97 hw) (by decide) (c_get2_0 l Z a0 hw hEL h0 W580.old ta k_ta vs uu vv cc SAD SHI SLO A_t hu hv hp r_c) all0 (by decide) (by decide) (k' := 0) (n' := 0) rfl rfl (by decide) (by decide) (by rw [hml]; rfl) (argsL := [(.ref ta), (.int (0 : Int32))]) (rest := []) (lenOf pd_5 rfl) rfl rfl (Wt := 0) (Nat.le_of_eq rfl) (hb hby dc_jdk_52_method_83_code_7) ?_
  intro T581 W582
  show Go p e below s Z [] _ _ _ (T581.setTop (mkF m 10 #[.val (.ref ta), .val (.int (0 : Int32))] [(.int cc)]))
  exact W582.retN (z' := cc) (by decide) (by decide) hret (by simp) (hb hby dc_jdk_52_method_83_code_10) (nar_id r_c) ⟨rfl, rfl⟩
set_option maxRecDepth 65536 in
set_option maxHeartbeats 40000000 in
theorem c_at2_0 (l : Launch) (Z : State) (a0 : Array Value) (hw : ∀ d ∈ tables_1, d.before a0 Z = true) (hEL : EW Z a0 []) (h0 : Heap) (hE0 : Ext Z.heap h0) (xa ta : Addr) (k_ta : ClassId) (vs : List Value) (uu vv cc G1 : Int32) (fm : Value) (SG1 : Sta Z Z.heap "java/lang/String" "COMPACT_STRINGS" "Z" (.int G1)) (hG : ¬ G1 = 0) (SAD : Sta Z Z.heap "java/lang/StringUTF16" "$assertionsDisabled" "Z" (.int 1)) (SHI : Sta Z Z.heap "java/lang/StringUTF16" "HI_BYTE_SHIFT" "I" (.int 0)) (SLO : Sta Z Z.heap "java/lang/StringUTF16" "LO_BYTE_SHIFT" "I" (.int 8)) (SFM : Sta Z Z.heap "jdk/internal/util/Preconditions" "SIOOBE_FORMATTER" "Ljava/util/function/BiFunction;" fm) (rfm : fm.isRef = true) (E_x : Exa Z h0 xa "java/lang/String") (FV : Fld Z h0 xa "java/lang/String" "value" "[B" (.ref ta)) (FC : Fld Z h0 xa "java/lang/String" "coder" "B" (.int 1)) (A_t : Arv Z h0 ta k_ta .byte (4 : Int32) vs (.int (0 : Int32))) (hu : vs.getD 0 (.int (0 : Int32)) = .int uu) (hv : vs.getD 1 (.int (0 : Int32)) = .int vv) (hp : StrChars.pairCh uu vv = cc) (r_c : ¬ cc < 0 ∧ ¬ (65535 : Int32) < cc) :
    Con l Z [] [] (⟨"java/lang/String", "charAt", "(I)C"⟩ : MethodName) jdk_42_method_56_code 2 (some .char) [] ({ frames := 4, cells := 0, slots := 0, locals := 53 } : Room) #[(.ref xa), (.int (0 : Int32))] h0 (fun v h' => v = (some (.int cc)) ∧ h' = h0) := by
  refine Con.mk (plainFor_of_name pn_1) hEL hE0 (fun x hx => by cases hx) ?_
  intro p e s m below meth c T0 hby hml hret hnm W0
  rw [(show entryFrame m #[(.ref xa), (.int (0 : Int32))] 2 = mkF m 0 #[.val (.ref xa), .val (.int (0 : Int32))] [] from by first | (simp [entryFrame, mkF, argsToLocals, Value.category]; done) | rfl)]
  refine Go.by (fun t9_ q9_ => XS.aloadN W0.here W0.hx rfl (hb hby dc_jdk_42_method_56_code_0) rfl rfl q9_) ?_
  show Go p e below s Z [] _ _ _ (T0.setTop (mkF m 1 #[.val (.ref xa), .val (.int (0 : Int32))] [(.ref xa)]))
  refine W0.callVp (y := (⟨"java/lang/String", "isLatin1", "()Z"⟩ : MethodName)) (z := (⟨"java/lang/String", "isLatin1", "()Z"⟩ : MethodName)) (wd62 hw) (wd63 hw) (nf_sel rfl (wd65 hw)) (wd65 hw) (wd64 hw) (wd3 hw) (wd66 hw) (by decide) E_x (a := xa) (c_isl l Z a0 hw hEL h0 hE0 xa G1 SG1 hG FC) all0 (by decide) (by decide) (k' := 0) (n' := 0) rfl rfl (by decide) (by decide) (by rw [hml]; rfl) (argsL := []) (rest := []) (lenOf pd_12 rfl) rfl rfl (Wt := 0) (Nat.le_of_eq rfl) (hb hby dc_jdk_42_method_56_code_1) ?_
  intro T583 W584
  show Go p e below s Z [] _ _ _ (T583.setTop (mkF m 4 #[.val (.ref xa), .val (.int (0 : Int32))] [(.int (0 : Int32))]))
  refine Go.by (fun t9_ q9_ => XS.ifYes W584.here W584.hx rfl (pc0 := 4) (pc' := 16) rfl (hb hby dc_jdk_42_method_56_code_4) rfl ((if0 _ _).trans (teq rfl).1) (by decide) (by decide) q9_) ?_
  show Go p e below s Z [] _ _ _ (T583.setTop (mkF m 16 #[.val (.ref xa), .val (.int (0 : Int32))] []))
  refine Go.by (fun t9_ q9_ => XS.aloadN W584.here W584.hx rfl (hb hby dc_jdk_42_method_56_code_16) rfl rfl q9_) ?_
  show Go p e below s Z [] _ _ _ (T583.setTop (mkF m 17 #[.val (.ref xa), .val (.int (0 : Int32))] [(.ref xa)]))
  refine W584.getf (host := "") (Or.inl (wd28 hw)) Via.refl FV (hb hby dc_jdk_42_method_56_code_17) ?_
  intro T585 W586
  show Go p e below s Z [] _ _ _ (T585.setTop (mkF m 20 #[.val (.ref xa), .val (.int (0 : Int32))] [(.ref ta)]))
  refine Go.by (fun t9_ q9_ => XS.iloadN W586.here W586.hx rfl (hb hby dc_jdk_42_method_56_code_20) rfl q9_) ?_
  show Go p e below s Z [] _ _ _ (T585.setTop (mkF m 21 #[.val (.ref xa), .val (.int (0 : Int32))] [(.int (0 : Int32)), (.ref ta)]))
  refine W586.callSp (y := (⟨"java/lang/StringUTF16", "charAt", "([BI)C"⟩ : MethodName)) (wd98 hw) (wd99 hw) (wd17 hw) (wd100 hw) (by decide) (c_uca2_0 l Z a0 hw hEL h0 W586.old ta k_ta vs uu vv cc fm SAD SHI SLO SFM rfm A_t hu hv hp r_c) all0 (by decide) (by decide) (k' := 0) (n' := 0) rfl rfl (by decide) (by decide) (by rw [hml]; rfl) (argsL := [(.ref ta), (.int (0 : Int32))]) (rest := []) (lenOf pd_5 rfl) rfl rfl (Wt := 0) (Nat.le_of_eq rfl) (hb hby dc_jdk_42_method_56_code_21) ?_
  intro T587 W588
  show Go p e below s Z [] _ _ _ (T587.setTop (mkF m 24 #[.val (.ref xa), .val (.int (0 : Int32))] [(.int cc)]))
  exact W588.retN (z' := cc) (by decide) (by decide) hret (by simp) (hb hby dc_jdk_42_method_56_code_24) (nar_id r_c) ⟨rfl, rfl⟩
set_option maxRecDepth 65536 in
set_option maxHeartbeats 40000000 in
theorem c_uca2_1 (l : Launch) (Z : State) (a0 : Array Value) (hw : ∀ d ∈ tables_1, d.before a0 Z = true) (hEL : EW Z a0 []) (h0 : Heap) (hE0 : Ext Z.heap h0) (ta : Addr) (k_ta : ClassId) (vs : List Value) (uu vv cc : Int32) (fm : Value) (SAD : Sta Z Z.heap "java/lang/StringUTF16" "$assertionsDisabled" "Z" (.int 1)) (SHI : Sta Z Z.heap "java/lang/StringUTF16" "HI_BYTE_SHIFT" "I" (.int 0)) (SLO : Sta Z Z.heap "java/lang/StringUTF16" "LO_BYTE_SHIFT" "I" (.int 8)) (SFM : Sta Z Z.heap "jdk/internal/util/Preconditions" "SIOOBE_FORMATTER" "Ljava/util/function/BiFunction;" fm) (rfm : fm.isRef = true) (A_t : Arv Z h0 ta k_ta .byte (4 : Int32) vs (.int (0 : Int32))) (hu : vs.getD 2 (.int (0 : Int32)) = .int uu) (hv : vs.getD 3 (.int (0 : Int32)) = .int vv) (hp : StrChars.pairCh uu vv = cc) (r_c : ¬ cc < 0 ∧ ¬ (65535 : Int32) < cc) :
    Con l Z [] [] (⟨"java/lang/StringUTF16", "charAt", "([BI)C"⟩ : MethodName) jdk_52_method_83_code 2 (some .char) [] ({ frames := 3, cells := 0, slots := 0, locals := 40 } : Room) #[(.ref ta), (.int (1 : Int32))] h0 (fun v h' => v = (some (.int cc)) ∧ h' = h0) := by
  refine Con.mk (plainFor_of_name pn_0) hEL hE0 (fun x hx => by cases hx) ?_
  intro p e s m below meth c T0 hby hml hret hnm W0
  rw [(show entryFrame m #[(.ref ta), (.int (1 : Int32))] 2 = mkF m 0 #[.val (.ref ta), .val (.int (1 : Int32))] [] from by first | (simp [entryFrame, mkF, argsToLocals, Value.category]; done) | rfl)]
  refine Go.by (fun t9_ q9_ => XS.iloadN W0.here W0.hx rfl (hb hby dc_jdk_52_method_83_code_0) rfl (XS.aloadN W0.here W0.hx rfl (hb hby dc_jdk_52_method_83_code_1) rfl rfl q9_)) ?_
  show Go p e below s Z [] _ _ _ (T0.setTop (mkF m 2 #[.val (.ref ta), .val (.int (1 : Int32))] [(.ref ta), (.int (1 : Int32))]))
  refine W0.callSp (y := (⟨"java/lang/StringUTF16", "checkIndex", "(I[B)V"⟩ : MethodName)) (wd101 hw) (wd102 hw) (wd17 hw) (wd103 hw) (by decide) (c_uci2 l Z a0 hw hEL h0 hE0 (1 : Int32) ta k_ta vs fm SFM rfm A_t (by decide) (by decide)) all0 (by decide) (by decide) (k' := 0) (n' := 0) rfl rfl (by decide) (by decide) (by rw [hml]; rfl) (argsL := [(.int (1 : Int32)), (.ref ta)]) (rest := []) (lenOf pd_11 rfl) rfl rfl (Wt := 0) (Nat.le_of_eq rfl) (hb hby dc_jdk_52_method_83_code_2) ?_
  intro T589 W590
  show Go p e below s Z [] _ _ _ (T589.setTop (mkF m 5 #[.val (.ref ta), .val (.int (1 : Int32))] []))
  refine Go.by (fun t9_ q9_ => XS.aloadN W590.here W590.hx rfl (hb hby dc_jdk_52_method_83_code_5) rfl rfl (XS.iloadN W590.here W590.hx rfl (hb hby dc_jdk_52_method_83_code_6) rfl q9_)) ?_
  show Go p e below s Z [] _ _ _ (T589.setTop (mkF m 7 #[.val (.ref ta), .val (.int (1 : Int32))] [(.int (1 : Int32)), (.ref ta)]))
  refine W590.callSp (y := (⟨"java/lang/StringUTF16", "getChar", "([BI)C"⟩ : MethodName)) (wd95 hw) (wd96 hw) (wd17 hw) (wd97 hw) (by decide) (c_get2_1 l Z a0 hw hEL h0 W590.old ta k_ta vs uu vv cc SAD SHI SLO A_t hu hv hp r_c) all0 (by decide) (by decide) (k' := 0) (n' := 0) rfl rfl (by decide) (by decide) (by rw [hml]; rfl) (argsL := [(.ref ta), (.int (1 : Int32))]) (rest := []) (lenOf pd_5 rfl) rfl rfl (Wt := 0) (Nat.le_of_eq rfl) (hb hby dc_jdk_52_method_83_code_7) ?_
  intro T591 W592
  show Go p e below s Z [] _ _ _ (T591.setTop (mkF m 10 #[.val (.ref ta), .val (.int (1 : Int32))] [(.int cc)]))
  exact W592.retN (z' := cc) (by decide) (by decide) hret (by simp) (hb hby dc_jdk_52_method_83_code_10) (nar_id r_c) ⟨rfl, rfl⟩
set_option maxRecDepth 65536 in
set_option maxHeartbeats 40000000 in
theorem c_at2_1 (l : Launch) (Z : State) (a0 : Array Value) (hw : ∀ d ∈ tables_1, d.before a0 Z = true) (hEL : EW Z a0 []) (h0 : Heap) (hE0 : Ext Z.heap h0) (xa ta : Addr) (k_ta : ClassId) (vs : List Value) (uu vv cc G1 : Int32) (fm : Value) (SG1 : Sta Z Z.heap "java/lang/String" "COMPACT_STRINGS" "Z" (.int G1)) (hG : ¬ G1 = 0) (SAD : Sta Z Z.heap "java/lang/StringUTF16" "$assertionsDisabled" "Z" (.int 1)) (SHI : Sta Z Z.heap "java/lang/StringUTF16" "HI_BYTE_SHIFT" "I" (.int 0)) (SLO : Sta Z Z.heap "java/lang/StringUTF16" "LO_BYTE_SHIFT" "I" (.int 8)) (SFM : Sta Z Z.heap "jdk/internal/util/Preconditions" "SIOOBE_FORMATTER" "Ljava/util/function/BiFunction;" fm) (rfm : fm.isRef = true) (E_x : Exa Z h0 xa "java/lang/String") (FV : Fld Z h0 xa "java/lang/String" "value" "[B" (.ref ta)) (FC : Fld Z h0 xa "java/lang/String" "coder" "B" (.int 1)) (A_t : Arv Z h0 ta k_ta .byte (4 : Int32) vs (.int (0 : Int32))) (hu : vs.getD 2 (.int (0 : Int32)) = .int uu) (hv : vs.getD 3 (.int (0 : Int32)) = .int vv) (hp : StrChars.pairCh uu vv = cc) (r_c : ¬ cc < 0 ∧ ¬ (65535 : Int32) < cc) :
    Con l Z [] [] (⟨"java/lang/String", "charAt", "(I)C"⟩ : MethodName) jdk_42_method_56_code 2 (some .char) [] ({ frames := 4, cells := 0, slots := 0, locals := 53 } : Room) #[(.ref xa), (.int (1 : Int32))] h0 (fun v h' => v = (some (.int cc)) ∧ h' = h0) := by
  refine Con.mk (plainFor_of_name pn_1) hEL hE0 (fun x hx => by cases hx) ?_
  intro p e s m below meth c T0 hby hml hret hnm W0
  rw [(show entryFrame m #[(.ref xa), (.int (1 : Int32))] 2 = mkF m 0 #[.val (.ref xa), .val (.int (1 : Int32))] [] from by first | (simp [entryFrame, mkF, argsToLocals, Value.category]; done) | rfl)]
  refine Go.by (fun t9_ q9_ => XS.aloadN W0.here W0.hx rfl (hb hby dc_jdk_42_method_56_code_0) rfl rfl q9_) ?_
  show Go p e below s Z [] _ _ _ (T0.setTop (mkF m 1 #[.val (.ref xa), .val (.int (1 : Int32))] [(.ref xa)]))
  refine W0.callVp (y := (⟨"java/lang/String", "isLatin1", "()Z"⟩ : MethodName)) (z := (⟨"java/lang/String", "isLatin1", "()Z"⟩ : MethodName)) (wd62 hw) (wd63 hw) (nf_sel rfl (wd65 hw)) (wd65 hw) (wd64 hw) (wd3 hw) (wd66 hw) (by decide) E_x (a := xa) (c_isl l Z a0 hw hEL h0 hE0 xa G1 SG1 hG FC) all0 (by decide) (by decide) (k' := 0) (n' := 0) rfl rfl (by decide) (by decide) (by rw [hml]; rfl) (argsL := []) (rest := []) (lenOf pd_12 rfl) rfl rfl (Wt := 0) (Nat.le_of_eq rfl) (hb hby dc_jdk_42_method_56_code_1) ?_
  intro T593 W594
  show Go p e below s Z [] _ _ _ (T593.setTop (mkF m 4 #[.val (.ref xa), .val (.int (1 : Int32))] [(.int (0 : Int32))]))
  refine Go.by (fun t9_ q9_ => XS.ifYes W594.here W594.hx rfl (pc0 := 4) (pc' := 16) rfl (hb hby dc_jdk_42_method_56_code_4) rfl ((if0 _ _).trans (teq rfl).1) (by decide) (by decide) q9_) ?_
  show Go p e below s Z [] _ _ _ (T593.setTop (mkF m 16 #[.val (.ref xa), .val (.int (1 : Int32))] []))
  refine Go.by (fun t9_ q9_ => XS.aloadN W594.here W594.hx rfl (hb hby dc_jdk_42_method_56_code_16) rfl rfl q9_) ?_
  show Go p e below s Z [] _ _ _ (T593.setTop (mkF m 17 #[.val (.ref xa), .val (.int (1 : Int32))] [(.ref xa)]))
  refine W594.getf (host := "") (Or.inl (wd28 hw)) Via.refl FV (hb hby dc_jdk_42_method_56_code_17) ?_
  intro T595 W596
  show Go p e below s Z [] _ _ _ (T595.setTop (mkF m 20 #[.val (.ref xa), .val (.int (1 : Int32))] [(.ref ta)]))
  refine Go.by (fun t9_ q9_ => XS.iloadN W596.here W596.hx rfl (hb hby dc_jdk_42_method_56_code_20) rfl q9_) ?_
  show Go p e below s Z [] _ _ _ (T595.setTop (mkF m 21 #[.val (.ref xa), .val (.int (1 : Int32))] [(.int (1 : Int32)), (.ref ta)]))
  refine W596.callSp (y := (⟨"java/lang/StringUTF16", "charAt", "([BI)C"⟩ : MethodName)) (wd98 hw) (wd99 hw) (wd17 hw) (wd100 hw) (by decide) (c_uca2_1 l Z a0 hw hEL h0 W596.old ta k_ta vs uu vv cc fm SAD SHI SLO SFM rfm A_t hu hv hp r_c) all0 (by decide) (by decide) (k' := 0) (n' := 0) rfl rfl (by decide) (by decide) (by rw [hml]; rfl) (argsL := [(.ref ta), (.int (1 : Int32))]) (rest := []) (lenOf pd_5 rfl) rfl rfl (Wt := 0) (Nat.le_of_eq rfl) (hb hby dc_jdk_42_method_56_code_21) ?_
  intro T597 W598
  show Go p e below s Z [] _ _ _ (T597.setTop (mkF m 24 #[.val (.ref xa), .val (.int (1 : Int32))] [(.int cc)]))
  exact W598.retN (z' := cc) (by decide) (by decide) hret (by simp) (hb hby dc_jdk_42_method_56_code_24) (nar_id r_c) ⟨rfl, rfl⟩
set_option maxRecDepth 65536 in
set_option maxHeartbeats 40000000 in
theorem c_l16_3 (l : Launch) (Z : State) (a0 : Array Value) (hw : ∀ d ∈ tables_1, d.before a0 Z = true) (hEL : EW Z a0 []) (h0 : Heap) (hE0 : Ext Z.heap h0) (ta : Addr) (k_ta : ClassId) (vs : List Value) (A_t : Arv Z h0 ta k_ta .byte (6 : Int32) vs (.int (0 : Int32))) :
    Con l Z [] [] (⟨"java/lang/StringUTF16", "length", "([B)I"⟩ : MethodName) jdk_52_method_6_code 1 (some .int) [] ({ frames := 0, cells := 0, slots := 0, locals := 0 } : Room) #[(.ref ta)] h0 (fun v h' => v = (some (.int (3 : Int32))) ∧ h' = h0) := by
  refine Con.mk (plainFor_of_name pn_0) hEL hE0 (fun x hx => by cases hx) ?_
  intro p e s m below meth c T0 hby hml hret hnm W0
  rw [(show entryFrame m #[(.ref ta)] 1 = mkF m 0 #[.val (.ref ta)] [] from by first | (simp [entryFrame, mkF, argsToLocals, Value.category]; done) | rfl)]
  refine Go.by (fun t9_ q9_ => XS.aloadN W0.here W0.hx rfl (hb hby dc_jdk_52_method_6_code_0) rfl rfl q9_) ?_
  show Go p e below s Z [] _ _ _ (T0.setTop (mkF m 1 #[.val (.ref ta)] [(.ref ta)]))
  refine W0.alen A_t (hb hby dc_jdk_52_method_6_code_1) ?_
  show Go p e below s Z [] _ _ _ (T0.setTop (mkF m 2 #[.val (.ref ta)] [(.int (6 : Int32))]))
  refine Go.by (fun t9_ q9_ => XS.iconst W0.here W0.hx rfl (hb hby dc_jdk_52_method_6_code_2) (XS.ishr W0.here W0.hx rfl (hb hby dc_jdk_52_method_6_code_3) rfl q9_)) ?_
  show Go p e below s Z [] _ _ _ (T0.setTop (mkF m 4 #[.val (.ref ta)] [(.int ((6 : Int32) >>> ((1 : Int32) &&& 31)))]))
  rw [show ((6 : Int32) >>> ((1 : Int32) &&& 31)) = (3 : Int32) from by decide]
  show Go p e below s Z [] _ _ _ (T0.setTop (mkF m 4 #[.val (.ref ta)] [(.int (3 : Int32))]))
  exact W0.retI (by decide) (by decide) hret (hb hby dc_jdk_52_method_6_code_4) ⟨rfl, rfl⟩
set_option maxRecDepth 65536 in
set_option maxHeartbeats 40000000 in
theorem c_uci3 (l : Launch) (Z : State) (a0 : Array Value) (hw : ∀ d ∈ tables_1, d.before a0 Z = true) (hEL : EW Z a0 []) (h0 : Heap) (hE0 : Ext Z.heap h0) (ii : Int32) (ta : Addr) (k_ta : ClassId) (vs : List Value) (fm : Value) (SFM : Sta Z Z.heap "jdk/internal/util/Preconditions" "SIOOBE_FORMATTER" "Ljava/util/function/BiFunction;" fm) (rfm : fm.isRef = true) (A_t : Arv Z h0 ta k_ta .byte (6 : Int32) vs (.int (0 : Int32))) (h1 : ¬ ii < 0) (h2 : ii < (3 : Int32)) :
    Con l Z [] [] (⟨"java/lang/StringUTF16", "checkIndex", "(I[B)V"⟩ : MethodName) jdk_52_method_91_code 2 none [] ({ frames := 2, cells := 0, slots := 0, locals := 27 } : Room) #[(.int ii), (.ref ta)] h0 (fun v h' => v = none ∧ h' = h0) := by
  refine Con.mk (plainFor_of_name pn_0) hEL hE0 (fun x hx => by cases hx) ?_
  intro p e s m below meth c T0 hby hml hret hnm W0
  rw [(show entryFrame m #[(.int ii), (.ref ta)] 2 = mkF m 0 #[.val (.int ii), .val (.ref ta)] [] from by first | (simp [entryFrame, mkF, argsToLocals, Value.category]; done) | rfl)]
  refine Go.by (fun t9_ q9_ => XS.iloadN W0.here W0.hx rfl (hb hby dc_jdk_52_method_91_code_0) rfl (XS.aloadN W0.here W0.hx rfl (hb hby dc_jdk_52_method_91_code_1) rfl rfl q9_)) ?_
  show Go p e below s Z [] _ _ _ (T0.setTop (mkF m 2 #[.val (.int ii), .val (.ref ta)] [(.ref ta), (.int ii)]))
  refine W0.callSp (y := (⟨"java/lang/StringUTF16", "length", "([B)I"⟩ : MethodName)) (wd104 hw) (wd105 hw) (wd17 hw) (wd106 hw) (by decide) (c_l16_3 l Z a0 hw hEL h0 hE0 ta k_ta vs A_t) all0 (by decide) (by decide) (k' := 0) (n' := 0) rfl rfl (by decide) (by decide) (by rw [hml]; rfl) (argsL := [(.ref ta)]) (rest := [(.int ii)]) (lenOf pd_9 rfl) rfl rfl (Wt := 1) (Nat.le_of_eq rfl) (hb hby dc_jdk_52_method_91_code_2) ?_
  intro T599 W600
  show Go p e below s Z [] _ _ _ (T599.setTop (mkF m 5 #[.val (.int ii), .val (.ref ta)] [(.int (3 : Int32)), (.int ii)]))
  refine W600.callSp (y := (⟨"java/lang/String", "checkIndex", "(II)V"⟩ : MethodName)) (wd107 hw) (wd72 hw) (wd3 hw) (wd73 hw) (by decide) (c_sci l Z a0 hw hEL h0 W600.old ii (3 : Int32) fm SFM rfm h1 h2) all0 (by decide) (by decide) (k' := 0) (n' := 0) rfl rfl (by decide) (by decide) (by rw [hml]; rfl) (argsL := [(.int ii), (.int (3 : Int32))]) (rest := []) (lenOf pd_10 rfl) rfl rfl (Wt := 0) (Nat.le_of_eq rfl) (hb hby dc_jdk_52_method_91_code_5) ?_
  intro T601 W602
  show Go p e below s Z [] _ _ _ (T601.setTop (mkF m 8 #[.val (.int ii), .val (.ref ta)] []))
  exact W602.retV (by decide) (by decide) hret (hb hby dc_jdk_52_method_91_code_8) ⟨rfl, rfl⟩
set_option maxRecDepth 65536 in
set_option maxHeartbeats 40000000 in
theorem c_uca3_0 (l : Launch) (Z : State) (a0 : Array Value) (hw : ∀ d ∈ tables_1, d.before a0 Z = true) (hEL : EW Z a0 []) (h0 : Heap) (hE0 : Ext Z.heap h0) (ta : Addr) (k_ta : ClassId) (vs : List Value) (uu vv cc : Int32) (fm : Value) (SAD : Sta Z Z.heap "java/lang/StringUTF16" "$assertionsDisabled" "Z" (.int 1)) (SHI : Sta Z Z.heap "java/lang/StringUTF16" "HI_BYTE_SHIFT" "I" (.int 0)) (SLO : Sta Z Z.heap "java/lang/StringUTF16" "LO_BYTE_SHIFT" "I" (.int 8)) (SFM : Sta Z Z.heap "jdk/internal/util/Preconditions" "SIOOBE_FORMATTER" "Ljava/util/function/BiFunction;" fm) (rfm : fm.isRef = true) (A_t : Arv Z h0 ta k_ta .byte (6 : Int32) vs (.int (0 : Int32))) (hu : vs.getD 0 (.int (0 : Int32)) = .int uu) (hv : vs.getD 1 (.int (0 : Int32)) = .int vv) (hp : StrChars.pairCh uu vv = cc) (r_c : ¬ cc < 0 ∧ ¬ (65535 : Int32) < cc) :
    Con l Z [] [] (⟨"java/lang/StringUTF16", "charAt", "([BI)C"⟩ : MethodName) jdk_52_method_83_code 2 (some .char) [] ({ frames := 3, cells := 0, slots := 0, locals := 40 } : Room) #[(.ref ta), (.int (0 : Int32))] h0 (fun v h' => v = (some (.int cc)) ∧ h' = h0) := by
  refine Con.mk (plainFor_of_name pn_0) hEL hE0 (fun x hx => by cases hx) ?_
  intro p e s m below meth c T0 hby hml hret hnm W0
  rw [(show entryFrame m #[(.ref ta), (.int (0 : Int32))] 2 = mkF m 0 #[.val (.ref ta), .val (.int (0 : Int32))] [] from by first | (simp [entryFrame, mkF, argsToLocals, Value.category]; done) | rfl)]
  refine Go.by (fun t9_ q9_ => XS.iloadN W0.here W0.hx rfl (hb hby dc_jdk_52_method_83_code_0) rfl (XS.aloadN W0.here W0.hx rfl (hb hby dc_jdk_52_method_83_code_1) rfl rfl q9_)) ?_
  show Go p e below s Z [] _ _ _ (T0.setTop (mkF m 2 #[.val (.ref ta), .val (.int (0 : Int32))] [(.ref ta), (.int (0 : Int32))]))
  refine W0.callSp (y := (⟨"java/lang/StringUTF16", "checkIndex", "(I[B)V"⟩ : MethodName)) (wd101 hw) (wd102 hw) (wd17 hw) (wd103 hw) (by decide) (c_uci3 l Z a0 hw hEL h0 hE0 (0 : Int32) ta k_ta vs fm SFM rfm A_t (by decide) (by decide)) all0 (by decide) (by decide) (k' := 0) (n' := 0) rfl rfl (by decide) (by decide) (by rw [hml]; rfl) (argsL := [(.int (0 : Int32)), (.ref ta)]) (rest := []) (lenOf pd_11 rfl) rfl rfl (Wt := 0) (Nat.le_of_eq rfl) (hb hby dc_jdk_52_method_83_code_2) ?_
  intro T603 W604
  show Go p e below s Z [] _ _ _ (T603.setTop (mkF m 5 #[.val (.ref ta), .val (.int (0 : Int32))] []))
  refine Go.by (fun t9_ q9_ => XS.aloadN W604.here W604.hx rfl (hb hby dc_jdk_52_method_83_code_5) rfl rfl (XS.iloadN W604.here W604.hx rfl (hb hby dc_jdk_52_method_83_code_6) rfl q9_)) ?_
  show Go p e below s Z [] _ _ _ (T603.setTop (mkF m 7 #[.val (.ref ta), .val (.int (0 : Int32))] [(.int (0 : Int32)), (.ref ta)]))
  refine W604.callSp (y := (⟨"java/lang/StringUTF16", "getChar", "([BI)C"⟩ : MethodName)) (wd95 hw) (wd96 hw) (wd17 hw) (wd97 hw) (by decide) (c_get3_0 l Z a0 hw hEL h0 W604.old ta k_ta vs uu vv cc SAD SHI SLO A_t hu hv hp r_c) all0 (by decide) (by decide) (k' := 0) (n' := 0) rfl rfl (by decide) (by decide) (by rw [hml]; rfl) (argsL := [(.ref ta), (.int (0 : Int32))]) (rest := []) (lenOf pd_5 rfl) rfl rfl (Wt := 0) (Nat.le_of_eq rfl) (hb hby dc_jdk_52_method_83_code_7) ?_
  intro T605 W606
  show Go p e below s Z [] _ _ _ (T605.setTop (mkF m 10 #[.val (.ref ta), .val (.int (0 : Int32))] [(.int cc)]))
  exact W606.retN (z' := cc) (by decide) (by decide) hret (by simp) (hb hby dc_jdk_52_method_83_code_10) (nar_id r_c) ⟨rfl, rfl⟩
set_option maxRecDepth 65536 in
set_option maxHeartbeats 40000000 in
theorem c_at3_0 (l : Launch) (Z : State) (a0 : Array Value) (hw : ∀ d ∈ tables_1, d.before a0 Z = true) (hEL : EW Z a0 []) (h0 : Heap) (hE0 : Ext Z.heap h0) (xa ta : Addr) (k_ta : ClassId) (vs : List Value) (uu vv cc G1 : Int32) (fm : Value) (SG1 : Sta Z Z.heap "java/lang/String" "COMPACT_STRINGS" "Z" (.int G1)) (hG : ¬ G1 = 0) (SAD : Sta Z Z.heap "java/lang/StringUTF16" "$assertionsDisabled" "Z" (.int 1)) (SHI : Sta Z Z.heap "java/lang/StringUTF16" "HI_BYTE_SHIFT" "I" (.int 0)) (SLO : Sta Z Z.heap "java/lang/StringUTF16" "LO_BYTE_SHIFT" "I" (.int 8)) (SFM : Sta Z Z.heap "jdk/internal/util/Preconditions" "SIOOBE_FORMATTER" "Ljava/util/function/BiFunction;" fm) (rfm : fm.isRef = true) (E_x : Exa Z h0 xa "java/lang/String") (FV : Fld Z h0 xa "java/lang/String" "value" "[B" (.ref ta)) (FC : Fld Z h0 xa "java/lang/String" "coder" "B" (.int 1)) (A_t : Arv Z h0 ta k_ta .byte (6 : Int32) vs (.int (0 : Int32))) (hu : vs.getD 0 (.int (0 : Int32)) = .int uu) (hv : vs.getD 1 (.int (0 : Int32)) = .int vv) (hp : StrChars.pairCh uu vv = cc) (r_c : ¬ cc < 0 ∧ ¬ (65535 : Int32) < cc) :
    Con l Z [] [] (⟨"java/lang/String", "charAt", "(I)C"⟩ : MethodName) jdk_42_method_56_code 2 (some .char) [] ({ frames := 4, cells := 0, slots := 0, locals := 53 } : Room) #[(.ref xa), (.int (0 : Int32))] h0 (fun v h' => v = (some (.int cc)) ∧ h' = h0) := by
  refine Con.mk (plainFor_of_name pn_1) hEL hE0 (fun x hx => by cases hx) ?_
  intro p e s m below meth c T0 hby hml hret hnm W0
  rw [(show entryFrame m #[(.ref xa), (.int (0 : Int32))] 2 = mkF m 0 #[.val (.ref xa), .val (.int (0 : Int32))] [] from by first | (simp [entryFrame, mkF, argsToLocals, Value.category]; done) | rfl)]
  refine Go.by (fun t9_ q9_ => XS.aloadN W0.here W0.hx rfl (hb hby dc_jdk_42_method_56_code_0) rfl rfl q9_) ?_
  show Go p e below s Z [] _ _ _ (T0.setTop (mkF m 1 #[.val (.ref xa), .val (.int (0 : Int32))] [(.ref xa)]))
  refine W0.callVp (y := (⟨"java/lang/String", "isLatin1", "()Z"⟩ : MethodName)) (z := (⟨"java/lang/String", "isLatin1", "()Z"⟩ : MethodName)) (wd62 hw) (wd63 hw) (nf_sel rfl (wd65 hw)) (wd65 hw) (wd64 hw) (wd3 hw) (wd66 hw) (by decide) E_x (a := xa) (c_isl l Z a0 hw hEL h0 hE0 xa G1 SG1 hG FC) all0 (by decide) (by decide) (k' := 0) (n' := 0) rfl rfl (by decide) (by decide) (by rw [hml]; rfl) (argsL := []) (rest := []) (lenOf pd_12 rfl) rfl rfl (Wt := 0) (Nat.le_of_eq rfl) (hb hby dc_jdk_42_method_56_code_1) ?_
  intro T607 W608
  show Go p e below s Z [] _ _ _ (T607.setTop (mkF m 4 #[.val (.ref xa), .val (.int (0 : Int32))] [(.int (0 : Int32))]))
  refine Go.by (fun t9_ q9_ => XS.ifYes W608.here W608.hx rfl (pc0 := 4) (pc' := 16) rfl (hb hby dc_jdk_42_method_56_code_4) rfl ((if0 _ _).trans (teq rfl).1) (by decide) (by decide) q9_) ?_
  show Go p e below s Z [] _ _ _ (T607.setTop (mkF m 16 #[.val (.ref xa), .val (.int (0 : Int32))] []))
  refine Go.by (fun t9_ q9_ => XS.aloadN W608.here W608.hx rfl (hb hby dc_jdk_42_method_56_code_16) rfl rfl q9_) ?_
  show Go p e below s Z [] _ _ _ (T607.setTop (mkF m 17 #[.val (.ref xa), .val (.int (0 : Int32))] [(.ref xa)]))
  refine W608.getf (host := "") (Or.inl (wd28 hw)) Via.refl FV (hb hby dc_jdk_42_method_56_code_17) ?_
  intro T609 W610
  show Go p e below s Z [] _ _ _ (T609.setTop (mkF m 20 #[.val (.ref xa), .val (.int (0 : Int32))] [(.ref ta)]))
  refine Go.by (fun t9_ q9_ => XS.iloadN W610.here W610.hx rfl (hb hby dc_jdk_42_method_56_code_20) rfl q9_) ?_
  show Go p e below s Z [] _ _ _ (T609.setTop (mkF m 21 #[.val (.ref xa), .val (.int (0 : Int32))] [(.int (0 : Int32)), (.ref ta)]))
  refine W610.callSp (y := (⟨"java/lang/StringUTF16", "charAt", "([BI)C"⟩ : MethodName)) (wd98 hw) (wd99 hw) (wd17 hw) (wd100 hw) (by decide) (c_uca3_0 l Z a0 hw hEL h0 W610.old ta k_ta vs uu vv cc fm SAD SHI SLO SFM rfm A_t hu hv hp r_c) all0 (by decide) (by decide) (k' := 0) (n' := 0) rfl rfl (by decide) (by decide) (by rw [hml]; rfl) (argsL := [(.ref ta), (.int (0 : Int32))]) (rest := []) (lenOf pd_5 rfl) rfl rfl (Wt := 0) (Nat.le_of_eq rfl) (hb hby dc_jdk_42_method_56_code_21) ?_
  intro T611 W612
  show Go p e below s Z [] _ _ _ (T611.setTop (mkF m 24 #[.val (.ref xa), .val (.int (0 : Int32))] [(.int cc)]))
  exact W612.retN (z' := cc) (by decide) (by decide) hret (by simp) (hb hby dc_jdk_42_method_56_code_24) (nar_id r_c) ⟨rfl, rfl⟩
set_option maxRecDepth 65536 in
set_option maxHeartbeats 40000000 in
theorem c_uca3_2 (l : Launch) (Z : State) (a0 : Array Value) (hw : ∀ d ∈ tables_1, d.before a0 Z = true) (hEL : EW Z a0 []) (h0 : Heap) (hE0 : Ext Z.heap h0) (ta : Addr) (k_ta : ClassId) (vs : List Value) (uu vv cc : Int32) (fm : Value) (SAD : Sta Z Z.heap "java/lang/StringUTF16" "$assertionsDisabled" "Z" (.int 1)) (SHI : Sta Z Z.heap "java/lang/StringUTF16" "HI_BYTE_SHIFT" "I" (.int 0)) (SLO : Sta Z Z.heap "java/lang/StringUTF16" "LO_BYTE_SHIFT" "I" (.int 8)) (SFM : Sta Z Z.heap "jdk/internal/util/Preconditions" "SIOOBE_FORMATTER" "Ljava/util/function/BiFunction;" fm) (rfm : fm.isRef = true) (A_t : Arv Z h0 ta k_ta .byte (6 : Int32) vs (.int (0 : Int32))) (hu : vs.getD 4 (.int (0 : Int32)) = .int uu) (hv : vs.getD 5 (.int (0 : Int32)) = .int vv) (hp : StrChars.pairCh uu vv = cc) (r_c : ¬ cc < 0 ∧ ¬ (65535 : Int32) < cc) :
    Con l Z [] [] (⟨"java/lang/StringUTF16", "charAt", "([BI)C"⟩ : MethodName) jdk_52_method_83_code 2 (some .char) [] ({ frames := 3, cells := 0, slots := 0, locals := 40 } : Room) #[(.ref ta), (.int (2 : Int32))] h0 (fun v h' => v = (some (.int cc)) ∧ h' = h0) := by
  refine Con.mk (plainFor_of_name pn_0) hEL hE0 (fun x hx => by cases hx) ?_
  intro p e s m below meth c T0 hby hml hret hnm W0
  rw [(show entryFrame m #[(.ref ta), (.int (2 : Int32))] 2 = mkF m 0 #[.val (.ref ta), .val (.int (2 : Int32))] [] from by first | (simp [entryFrame, mkF, argsToLocals, Value.category]; done) | rfl)]
  refine Go.by (fun t9_ q9_ => XS.iloadN W0.here W0.hx rfl (hb hby dc_jdk_52_method_83_code_0) rfl (XS.aloadN W0.here W0.hx rfl (hb hby dc_jdk_52_method_83_code_1) rfl rfl q9_)) ?_
  show Go p e below s Z [] _ _ _ (T0.setTop (mkF m 2 #[.val (.ref ta), .val (.int (2 : Int32))] [(.ref ta), (.int (2 : Int32))]))
  refine W0.callSp (y := (⟨"java/lang/StringUTF16", "checkIndex", "(I[B)V"⟩ : MethodName)) (wd101 hw) (wd102 hw) (wd17 hw) (wd103 hw) (by decide) (c_uci3 l Z a0 hw hEL h0 hE0 (2 : Int32) ta k_ta vs fm SFM rfm A_t (by decide) (by decide)) all0 (by decide) (by decide) (k' := 0) (n' := 0) rfl rfl (by decide) (by decide) (by rw [hml]; rfl) (argsL := [(.int (2 : Int32)), (.ref ta)]) (rest := []) (lenOf pd_11 rfl) rfl rfl (Wt := 0) (Nat.le_of_eq rfl) (hb hby dc_jdk_52_method_83_code_2) ?_
  intro T613 W614
  show Go p e below s Z [] _ _ _ (T613.setTop (mkF m 5 #[.val (.ref ta), .val (.int (2 : Int32))] []))
  refine Go.by (fun t9_ q9_ => XS.aloadN W614.here W614.hx rfl (hb hby dc_jdk_52_method_83_code_5) rfl rfl (XS.iloadN W614.here W614.hx rfl (hb hby dc_jdk_52_method_83_code_6) rfl q9_)) ?_
  show Go p e below s Z [] _ _ _ (T613.setTop (mkF m 7 #[.val (.ref ta), .val (.int (2 : Int32))] [(.int (2 : Int32)), (.ref ta)]))
  refine W614.callSp (y := (⟨"java/lang/StringUTF16", "getChar", "([BI)C"⟩ : MethodName)) (wd95 hw) (wd96 hw) (wd17 hw) (wd97 hw) (by decide) (c_get3_2 l Z a0 hw hEL h0 W614.old ta k_ta vs uu vv cc SAD SHI SLO A_t hu hv hp r_c) all0 (by decide) (by decide) (k' := 0) (n' := 0) rfl rfl (by decide) (by decide) (by rw [hml]; rfl) (argsL := [(.ref ta), (.int (2 : Int32))]) (rest := []) (lenOf pd_5 rfl) rfl rfl (Wt := 0) (Nat.le_of_eq rfl) (hb hby dc_jdk_52_method_83_code_7) ?_
  intro T615 W616
  show Go p e below s Z [] _ _ _ (T615.setTop (mkF m 10 #[.val (.ref ta), .val (.int (2 : Int32))] [(.int cc)]))
  exact W616.retN (z' := cc) (by decide) (by decide) hret (by simp) (hb hby dc_jdk_52_method_83_code_10) (nar_id r_c) ⟨rfl, rfl⟩
set_option maxRecDepth 65536 in
set_option maxHeartbeats 40000000 in
theorem c_at3_2 (l : Launch) (Z : State) (a0 : Array Value) (hw : ∀ d ∈ tables_1, d.before a0 Z = true) (hEL : EW Z a0 []) (h0 : Heap) (hE0 : Ext Z.heap h0) (xa ta : Addr) (k_ta : ClassId) (vs : List Value) (uu vv cc G1 : Int32) (fm : Value) (SG1 : Sta Z Z.heap "java/lang/String" "COMPACT_STRINGS" "Z" (.int G1)) (hG : ¬ G1 = 0) (SAD : Sta Z Z.heap "java/lang/StringUTF16" "$assertionsDisabled" "Z" (.int 1)) (SHI : Sta Z Z.heap "java/lang/StringUTF16" "HI_BYTE_SHIFT" "I" (.int 0)) (SLO : Sta Z Z.heap "java/lang/StringUTF16" "LO_BYTE_SHIFT" "I" (.int 8)) (SFM : Sta Z Z.heap "jdk/internal/util/Preconditions" "SIOOBE_FORMATTER" "Ljava/util/function/BiFunction;" fm) (rfm : fm.isRef = true) (E_x : Exa Z h0 xa "java/lang/String") (FV : Fld Z h0 xa "java/lang/String" "value" "[B" (.ref ta)) (FC : Fld Z h0 xa "java/lang/String" "coder" "B" (.int 1)) (A_t : Arv Z h0 ta k_ta .byte (6 : Int32) vs (.int (0 : Int32))) (hu : vs.getD 4 (.int (0 : Int32)) = .int uu) (hv : vs.getD 5 (.int (0 : Int32)) = .int vv) (hp : StrChars.pairCh uu vv = cc) (r_c : ¬ cc < 0 ∧ ¬ (65535 : Int32) < cc) :
    Con l Z [] [] (⟨"java/lang/String", "charAt", "(I)C"⟩ : MethodName) jdk_42_method_56_code 2 (some .char) [] ({ frames := 4, cells := 0, slots := 0, locals := 53 } : Room) #[(.ref xa), (.int (2 : Int32))] h0 (fun v h' => v = (some (.int cc)) ∧ h' = h0) := by
  refine Con.mk (plainFor_of_name pn_1) hEL hE0 (fun x hx => by cases hx) ?_
  intro p e s m below meth c T0 hby hml hret hnm W0
  rw [(show entryFrame m #[(.ref xa), (.int (2 : Int32))] 2 = mkF m 0 #[.val (.ref xa), .val (.int (2 : Int32))] [] from by first | (simp [entryFrame, mkF, argsToLocals, Value.category]; done) | rfl)]
  refine Go.by (fun t9_ q9_ => XS.aloadN W0.here W0.hx rfl (hb hby dc_jdk_42_method_56_code_0) rfl rfl q9_) ?_
  show Go p e below s Z [] _ _ _ (T0.setTop (mkF m 1 #[.val (.ref xa), .val (.int (2 : Int32))] [(.ref xa)]))
  refine W0.callVp (y := (⟨"java/lang/String", "isLatin1", "()Z"⟩ : MethodName)) (z := (⟨"java/lang/String", "isLatin1", "()Z"⟩ : MethodName)) (wd62 hw) (wd63 hw) (nf_sel rfl (wd65 hw)) (wd65 hw) (wd64 hw) (wd3 hw) (wd66 hw) (by decide) E_x (a := xa) (c_isl l Z a0 hw hEL h0 hE0 xa G1 SG1 hG FC) all0 (by decide) (by decide) (k' := 0) (n' := 0) rfl rfl (by decide) (by decide) (by rw [hml]; rfl) (argsL := []) (rest := []) (lenOf pd_12 rfl) rfl rfl (Wt := 0) (Nat.le_of_eq rfl) (hb hby dc_jdk_42_method_56_code_1) ?_
  intro T617 W618
  show Go p e below s Z [] _ _ _ (T617.setTop (mkF m 4 #[.val (.ref xa), .val (.int (2 : Int32))] [(.int (0 : Int32))]))
  refine Go.by (fun t9_ q9_ => XS.ifYes W618.here W618.hx rfl (pc0 := 4) (pc' := 16) rfl (hb hby dc_jdk_42_method_56_code_4) rfl ((if0 _ _).trans (teq rfl).1) (by decide) (by decide) q9_) ?_
  show Go p e below s Z [] _ _ _ (T617.setTop (mkF m 16 #[.val (.ref xa), .val (.int (2 : Int32))] []))
  refine Go.by (fun t9_ q9_ => XS.aloadN W618.here W618.hx rfl (hb hby dc_jdk_42_method_56_code_16) rfl rfl q9_) ?_
  show Go p e below s Z [] _ _ _ (T617.setTop (mkF m 17 #[.val (.ref xa), .val (.int (2 : Int32))] [(.ref xa)]))
  refine W618.getf (host := "") (Or.inl (wd28 hw)) Via.refl FV (hb hby dc_jdk_42_method_56_code_17) ?_
  intro T619 W620
  show Go p e below s Z [] _ _ _ (T619.setTop (mkF m 20 #[.val (.ref xa), .val (.int (2 : Int32))] [(.ref ta)]))
  refine Go.by (fun t9_ q9_ => XS.iloadN W620.here W620.hx rfl (hb hby dc_jdk_42_method_56_code_20) rfl q9_) ?_
  show Go p e below s Z [] _ _ _ (T619.setTop (mkF m 21 #[.val (.ref xa), .val (.int (2 : Int32))] [(.int (2 : Int32)), (.ref ta)]))
  refine W620.callSp (y := (⟨"java/lang/StringUTF16", "charAt", "([BI)C"⟩ : MethodName)) (wd98 hw) (wd99 hw) (wd17 hw) (wd100 hw) (by decide) (c_uca3_2 l Z a0 hw hEL h0 W620.old ta k_ta vs uu vv cc fm SAD SHI SLO SFM rfm A_t hu hv hp r_c) all0 (by decide) (by decide) (k' := 0) (n' := 0) rfl rfl (by decide) (by decide) (by rw [hml]; rfl) (argsL := [(.ref ta), (.int (2 : Int32))]) (rest := []) (lenOf pd_5 rfl) rfl rfl (Wt := 0) (Nat.le_of_eq rfl) (hb hby dc_jdk_42_method_56_code_21) ?_
  intro T621 W622
  show Go p e below s Z [] _ _ _ (T621.setTop (mkF m 24 #[.val (.ref xa), .val (.int (2 : Int32))] [(.int cc)]))
  exact W622.retN (z' := cc) (by decide) (by decide) hret (by simp) (hb hby dc_jdk_42_method_56_code_24) (nar_id r_c) ⟨rfl, rfl⟩
set_option maxRecDepth 65536 in
set_option maxHeartbeats 40000000 in
theorem c_l16_4 (l : Launch) (Z : State) (a0 : Array Value) (hw : ∀ d ∈ tables_1, d.before a0 Z = true) (hEL : EW Z a0 []) (h0 : Heap) (hE0 : Ext Z.heap h0) (ta : Addr) (k_ta : ClassId) (vs : List Value) (A_t : Arv Z h0 ta k_ta .byte (8 : Int32) vs (.int (0 : Int32))) :
    Con l Z [] [] (⟨"java/lang/StringUTF16", "length", "([B)I"⟩ : MethodName) jdk_52_method_6_code 1 (some .int) [] ({ frames := 0, cells := 0, slots := 0, locals := 0 } : Room) #[(.ref ta)] h0 (fun v h' => v = (some (.int (4 : Int32))) ∧ h' = h0) := by
  refine Con.mk (plainFor_of_name pn_0) hEL hE0 (fun x hx => by cases hx) ?_
  intro p e s m below meth c T0 hby hml hret hnm W0
  rw [(show entryFrame m #[(.ref ta)] 1 = mkF m 0 #[.val (.ref ta)] [] from by first | (simp [entryFrame, mkF, argsToLocals, Value.category]; done) | rfl)]
  refine Go.by (fun t9_ q9_ => XS.aloadN W0.here W0.hx rfl (hb hby dc_jdk_52_method_6_code_0) rfl rfl q9_) ?_
  show Go p e below s Z [] _ _ _ (T0.setTop (mkF m 1 #[.val (.ref ta)] [(.ref ta)]))
  refine W0.alen A_t (hb hby dc_jdk_52_method_6_code_1) ?_
  show Go p e below s Z [] _ _ _ (T0.setTop (mkF m 2 #[.val (.ref ta)] [(.int (8 : Int32))]))
  refine Go.by (fun t9_ q9_ => XS.iconst W0.here W0.hx rfl (hb hby dc_jdk_52_method_6_code_2) (XS.ishr W0.here W0.hx rfl (hb hby dc_jdk_52_method_6_code_3) rfl q9_)) ?_
  show Go p e below s Z [] _ _ _ (T0.setTop (mkF m 4 #[.val (.ref ta)] [(.int ((8 : Int32) >>> ((1 : Int32) &&& 31)))]))
  rw [show ((8 : Int32) >>> ((1 : Int32) &&& 31)) = (4 : Int32) from by decide]
  show Go p e below s Z [] _ _ _ (T0.setTop (mkF m 4 #[.val (.ref ta)] [(.int (4 : Int32))]))
  exact W0.retI (by decide) (by decide) hret (hb hby dc_jdk_52_method_6_code_4) ⟨rfl, rfl⟩
set_option maxRecDepth 65536 in
set_option maxHeartbeats 40000000 in
theorem c_uci4 (l : Launch) (Z : State) (a0 : Array Value) (hw : ∀ d ∈ tables_1, d.before a0 Z = true) (hEL : EW Z a0 []) (h0 : Heap) (hE0 : Ext Z.heap h0) (ii : Int32) (ta : Addr) (k_ta : ClassId) (vs : List Value) (fm : Value) (SFM : Sta Z Z.heap "jdk/internal/util/Preconditions" "SIOOBE_FORMATTER" "Ljava/util/function/BiFunction;" fm) (rfm : fm.isRef = true) (A_t : Arv Z h0 ta k_ta .byte (8 : Int32) vs (.int (0 : Int32))) (h1 : ¬ ii < 0) (h2 : ii < (4 : Int32)) :
    Con l Z [] [] (⟨"java/lang/StringUTF16", "checkIndex", "(I[B)V"⟩ : MethodName) jdk_52_method_91_code 2 none [] ({ frames := 2, cells := 0, slots := 0, locals := 27 } : Room) #[(.int ii), (.ref ta)] h0 (fun v h' => v = none ∧ h' = h0) := by
  refine Con.mk (plainFor_of_name pn_0) hEL hE0 (fun x hx => by cases hx) ?_
  intro p e s m below meth c T0 hby hml hret hnm W0
  rw [(show entryFrame m #[(.int ii), (.ref ta)] 2 = mkF m 0 #[.val (.int ii), .val (.ref ta)] [] from by first | (simp [entryFrame, mkF, argsToLocals, Value.category]; done) | rfl)]
  refine Go.by (fun t9_ q9_ => XS.iloadN W0.here W0.hx rfl (hb hby dc_jdk_52_method_91_code_0) rfl (XS.aloadN W0.here W0.hx rfl (hb hby dc_jdk_52_method_91_code_1) rfl rfl q9_)) ?_
  show Go p e below s Z [] _ _ _ (T0.setTop (mkF m 2 #[.val (.int ii), .val (.ref ta)] [(.ref ta), (.int ii)]))
  refine W0.callSp (y := (⟨"java/lang/StringUTF16", "length", "([B)I"⟩ : MethodName)) (wd104 hw) (wd105 hw) (wd17 hw) (wd106 hw) (by decide) (c_l16_4 l Z a0 hw hEL h0 hE0 ta k_ta vs A_t) all0 (by decide) (by decide) (k' := 0) (n' := 0) rfl rfl (by decide) (by decide) (by rw [hml]; rfl) (argsL := [(.ref ta)]) (rest := [(.int ii)]) (lenOf pd_9 rfl) rfl rfl (Wt := 1) (Nat.le_of_eq rfl) (hb hby dc_jdk_52_method_91_code_2) ?_
  intro T623 W624
  show Go p e below s Z [] _ _ _ (T623.setTop (mkF m 5 #[.val (.int ii), .val (.ref ta)] [(.int (4 : Int32)), (.int ii)]))
  refine W624.callSp (y := (⟨"java/lang/String", "checkIndex", "(II)V"⟩ : MethodName)) (wd107 hw) (wd72 hw) (wd3 hw) (wd73 hw) (by decide) (c_sci l Z a0 hw hEL h0 W624.old ii (4 : Int32) fm SFM rfm h1 h2) all0 (by decide) (by decide) (k' := 0) (n' := 0) rfl rfl (by decide) (by decide) (by rw [hml]; rfl) (argsL := [(.int ii), (.int (4 : Int32))]) (rest := []) (lenOf pd_10 rfl) rfl rfl (Wt := 0) (Nat.le_of_eq rfl) (hb hby dc_jdk_52_method_91_code_5) ?_
  intro T625 W626
  show Go p e below s Z [] _ _ _ (T625.setTop (mkF m 8 #[.val (.int ii), .val (.ref ta)] []))
  exact W626.retV (by decide) (by decide) hret (hb hby dc_jdk_52_method_91_code_8) ⟨rfl, rfl⟩
set_option maxRecDepth 65536 in
set_option maxHeartbeats 40000000 in
theorem c_uca4_0 (l : Launch) (Z : State) (a0 : Array Value) (hw : ∀ d ∈ tables_1, d.before a0 Z = true) (hEL : EW Z a0 []) (h0 : Heap) (hE0 : Ext Z.heap h0) (ta : Addr) (k_ta : ClassId) (vs : List Value) (uu vv cc : Int32) (fm : Value) (SAD : Sta Z Z.heap "java/lang/StringUTF16" "$assertionsDisabled" "Z" (.int 1)) (SHI : Sta Z Z.heap "java/lang/StringUTF16" "HI_BYTE_SHIFT" "I" (.int 0)) (SLO : Sta Z Z.heap "java/lang/StringUTF16" "LO_BYTE_SHIFT" "I" (.int 8)) (SFM : Sta Z Z.heap "jdk/internal/util/Preconditions" "SIOOBE_FORMATTER" "Ljava/util/function/BiFunction;" fm) (rfm : fm.isRef = true) (A_t : Arv Z h0 ta k_ta .byte (8 : Int32) vs (.int (0 : Int32))) (hu : vs.getD 0 (.int (0 : Int32)) = .int uu) (hv : vs.getD 1 (.int (0 : Int32)) = .int vv) (hp : StrChars.pairCh uu vv = cc) (r_c : ¬ cc < 0 ∧ ¬ (65535 : Int32) < cc) :
    Con l Z [] [] (⟨"java/lang/StringUTF16", "charAt", "([BI)C"⟩ : MethodName) jdk_52_method_83_code 2 (some .char) [] ({ frames := 3, cells := 0, slots := 0, locals := 40 } : Room) #[(.ref ta), (.int (0 : Int32))] h0 (fun v h' => v = (some (.int cc)) ∧ h' = h0) := by
  refine Con.mk (plainFor_of_name pn_0) hEL hE0 (fun x hx => by cases hx) ?_
  intro p e s m below meth c T0 hby hml hret hnm W0
  rw [(show entryFrame m #[(.ref ta), (.int (0 : Int32))] 2 = mkF m 0 #[.val (.ref ta), .val (.int (0 : Int32))] [] from by first | (simp [entryFrame, mkF, argsToLocals, Value.category]; done) | rfl)]
  refine Go.by (fun t9_ q9_ => XS.iloadN W0.here W0.hx rfl (hb hby dc_jdk_52_method_83_code_0) rfl (XS.aloadN W0.here W0.hx rfl (hb hby dc_jdk_52_method_83_code_1) rfl rfl q9_)) ?_
  show Go p e below s Z [] _ _ _ (T0.setTop (mkF m 2 #[.val (.ref ta), .val (.int (0 : Int32))] [(.ref ta), (.int (0 : Int32))]))
  refine W0.callSp (y := (⟨"java/lang/StringUTF16", "checkIndex", "(I[B)V"⟩ : MethodName)) (wd101 hw) (wd102 hw) (wd17 hw) (wd103 hw) (by decide) (c_uci4 l Z a0 hw hEL h0 hE0 (0 : Int32) ta k_ta vs fm SFM rfm A_t (by decide) (by decide)) all0 (by decide) (by decide) (k' := 0) (n' := 0) rfl rfl (by decide) (by decide) (by rw [hml]; rfl) (argsL := [(.int (0 : Int32)), (.ref ta)]) (rest := []) (lenOf pd_11 rfl) rfl rfl (Wt := 0) (Nat.le_of_eq rfl) (hb hby dc_jdk_52_method_83_code_2) ?_
  intro T627 W628
  show Go p e below s Z [] _ _ _ (T627.setTop (mkF m 5 #[.val (.ref ta), .val (.int (0 : Int32))] []))
  refine Go.by (fun t9_ q9_ => XS.aloadN W628.here W628.hx rfl (hb hby dc_jdk_52_method_83_code_5) rfl rfl (XS.iloadN W628.here W628.hx rfl (hb hby dc_jdk_52_method_83_code_6) rfl q9_)) ?_
  show Go p e below s Z [] _ _ _ (T627.setTop (mkF m 7 #[.val (.ref ta), .val (.int (0 : Int32))] [(.int (0 : Int32)), (.ref ta)]))
  refine W628.callSp (y := (⟨"java/lang/StringUTF16", "getChar", "([BI)C"⟩ : MethodName)) (wd95 hw) (wd96 hw) (wd17 hw) (wd97 hw) (by decide) (c_get4_0 l Z a0 hw hEL h0 W628.old ta k_ta vs uu vv cc SAD SHI SLO A_t hu hv hp r_c) all0 (by decide) (by decide) (k' := 0) (n' := 0) rfl rfl (by decide) (by decide) (by rw [hml]; rfl) (argsL := [(.ref ta), (.int (0 : Int32))]) (rest := []) (lenOf pd_5 rfl) rfl rfl (Wt := 0) (Nat.le_of_eq rfl) (hb hby dc_jdk_52_method_83_code_7) ?_
  intro T629 W630
  show Go p e below s Z [] _ _ _ (T629.setTop (mkF m 10 #[.val (.ref ta), .val (.int (0 : Int32))] [(.int cc)]))
  exact W630.retN (z' := cc) (by decide) (by decide) hret (by simp) (hb hby dc_jdk_52_method_83_code_10) (nar_id r_c) ⟨rfl, rfl⟩
set_option maxRecDepth 65536 in
set_option maxHeartbeats 40000000 in
theorem c_at4_0 (l : Launch) (Z : State) (a0 : Array Value) (hw : ∀ d ∈ tables_1, d.before a0 Z = true) (hEL : EW Z a0 []) (h0 : Heap) (hE0 : Ext Z.heap h0) (xa ta : Addr) (k_ta : ClassId) (vs : List Value) (uu vv cc G1 : Int32) (fm : Value) (SG1 : Sta Z Z.heap "java/lang/String" "COMPACT_STRINGS" "Z" (.int G1)) (hG : ¬ G1 = 0) (SAD : Sta Z Z.heap "java/lang/StringUTF16" "$assertionsDisabled" "Z" (.int 1)) (SHI : Sta Z Z.heap "java/lang/StringUTF16" "HI_BYTE_SHIFT" "I" (.int 0)) (SLO : Sta Z Z.heap "java/lang/StringUTF16" "LO_BYTE_SHIFT" "I" (.int 8)) (SFM : Sta Z Z.heap "jdk/internal/util/Preconditions" "SIOOBE_FORMATTER" "Ljava/util/function/BiFunction;" fm) (rfm : fm.isRef = true) (E_x : Exa Z h0 xa "java/lang/String") (FV : Fld Z h0 xa "java/lang/String" "value" "[B" (.ref ta)) (FC : Fld Z h0 xa "java/lang/String" "coder" "B" (.int 1)) (A_t : Arv Z h0 ta k_ta .byte (8 : Int32) vs (.int (0 : Int32))) (hu : vs.getD 0 (.int (0 : Int32)) = .int uu) (hv : vs.getD 1 (.int (0 : Int32)) = .int vv) (hp : StrChars.pairCh uu vv = cc) (r_c : ¬ cc < 0 ∧ ¬ (65535 : Int32) < cc) :
    Con l Z [] [] (⟨"java/lang/String", "charAt", "(I)C"⟩ : MethodName) jdk_42_method_56_code 2 (some .char) [] ({ frames := 4, cells := 0, slots := 0, locals := 53 } : Room) #[(.ref xa), (.int (0 : Int32))] h0 (fun v h' => v = (some (.int cc)) ∧ h' = h0) := by
  refine Con.mk (plainFor_of_name pn_1) hEL hE0 (fun x hx => by cases hx) ?_
  intro p e s m below meth c T0 hby hml hret hnm W0
  rw [(show entryFrame m #[(.ref xa), (.int (0 : Int32))] 2 = mkF m 0 #[.val (.ref xa), .val (.int (0 : Int32))] [] from by first | (simp [entryFrame, mkF, argsToLocals, Value.category]; done) | rfl)]
  refine Go.by (fun t9_ q9_ => XS.aloadN W0.here W0.hx rfl (hb hby dc_jdk_42_method_56_code_0) rfl rfl q9_) ?_
  show Go p e below s Z [] _ _ _ (T0.setTop (mkF m 1 #[.val (.ref xa), .val (.int (0 : Int32))] [(.ref xa)]))
  refine W0.callVp (y := (⟨"java/lang/String", "isLatin1", "()Z"⟩ : MethodName)) (z := (⟨"java/lang/String", "isLatin1", "()Z"⟩ : MethodName)) (wd62 hw) (wd63 hw) (nf_sel rfl (wd65 hw)) (wd65 hw) (wd64 hw) (wd3 hw) (wd66 hw) (by decide) E_x (a := xa) (c_isl l Z a0 hw hEL h0 hE0 xa G1 SG1 hG FC) all0 (by decide) (by decide) (k' := 0) (n' := 0) rfl rfl (by decide) (by decide) (by rw [hml]; rfl) (argsL := []) (rest := []) (lenOf pd_12 rfl) rfl rfl (Wt := 0) (Nat.le_of_eq rfl) (hb hby dc_jdk_42_method_56_code_1) ?_
  intro T631 W632
  show Go p e below s Z [] _ _ _ (T631.setTop (mkF m 4 #[.val (.ref xa), .val (.int (0 : Int32))] [(.int (0 : Int32))]))
  refine Go.by (fun t9_ q9_ => XS.ifYes W632.here W632.hx rfl (pc0 := 4) (pc' := 16) rfl (hb hby dc_jdk_42_method_56_code_4) rfl ((if0 _ _).trans (teq rfl).1) (by decide) (by decide) q9_) ?_
  show Go p e below s Z [] _ _ _ (T631.setTop (mkF m 16 #[.val (.ref xa), .val (.int (0 : Int32))] []))
  refine Go.by (fun t9_ q9_ => XS.aloadN W632.here W632.hx rfl (hb hby dc_jdk_42_method_56_code_16) rfl rfl q9_) ?_
  show Go p e below s Z [] _ _ _ (T631.setTop (mkF m 17 #[.val (.ref xa), .val (.int (0 : Int32))] [(.ref xa)]))
  refine W632.getf (host := "") (Or.inl (wd28 hw)) Via.refl FV (hb hby dc_jdk_42_method_56_code_17) ?_
  intro T633 W634
  show Go p e below s Z [] _ _ _ (T633.setTop (mkF m 20 #[.val (.ref xa), .val (.int (0 : Int32))] [(.ref ta)]))
  refine Go.by (fun t9_ q9_ => XS.iloadN W634.here W634.hx rfl (hb hby dc_jdk_42_method_56_code_20) rfl q9_) ?_
  show Go p e below s Z [] _ _ _ (T633.setTop (mkF m 21 #[.val (.ref xa), .val (.int (0 : Int32))] [(.int (0 : Int32)), (.ref ta)]))
  refine W634.callSp (y := (⟨"java/lang/StringUTF16", "charAt", "([BI)C"⟩ : MethodName)) (wd98 hw) (wd99 hw) (wd17 hw) (wd100 hw) (by decide) (c_uca4_0 l Z a0 hw hEL h0 W634.old ta k_ta vs uu vv cc fm SAD SHI SLO SFM rfm A_t hu hv hp r_c) all0 (by decide) (by decide) (k' := 0) (n' := 0) rfl rfl (by decide) (by decide) (by rw [hml]; rfl) (argsL := [(.ref ta), (.int (0 : Int32))]) (rest := []) (lenOf pd_5 rfl) rfl rfl (Wt := 0) (Nat.le_of_eq rfl) (hb hby dc_jdk_42_method_56_code_21) ?_
  intro T635 W636
  show Go p e below s Z [] _ _ _ (T635.setTop (mkF m 24 #[.val (.ref xa), .val (.int (0 : Int32))] [(.int cc)]))
  exact W636.retN (z' := cc) (by decide) (by decide) hret (by simp) (hb hby dc_jdk_42_method_56_code_24) (nar_id r_c) ⟨rfl, rfl⟩
set_option maxRecDepth 65536 in
set_option maxHeartbeats 40000000 in
theorem c_uca4_3 (l : Launch) (Z : State) (a0 : Array Value) (hw : ∀ d ∈ tables_1, d.before a0 Z = true) (hEL : EW Z a0 []) (h0 : Heap) (hE0 : Ext Z.heap h0) (ta : Addr) (k_ta : ClassId) (vs : List Value) (uu vv cc : Int32) (fm : Value) (SAD : Sta Z Z.heap "java/lang/StringUTF16" "$assertionsDisabled" "Z" (.int 1)) (SHI : Sta Z Z.heap "java/lang/StringUTF16" "HI_BYTE_SHIFT" "I" (.int 0)) (SLO : Sta Z Z.heap "java/lang/StringUTF16" "LO_BYTE_SHIFT" "I" (.int 8)) (SFM : Sta Z Z.heap "jdk/internal/util/Preconditions" "SIOOBE_FORMATTER" "Ljava/util/function/BiFunction;" fm) (rfm : fm.isRef = true) (A_t : Arv Z h0 ta k_ta .byte (8 : Int32) vs (.int (0 : Int32))) (hu : vs.getD 6 (.int (0 : Int32)) = .int uu) (hv : vs.getD 7 (.int (0 : Int32)) = .int vv) (hp : StrChars.pairCh uu vv = cc) (r_c : ¬ cc < 0 ∧ ¬ (65535 : Int32) < cc) :
    Con l Z [] [] (⟨"java/lang/StringUTF16", "charAt", "([BI)C"⟩ : MethodName) jdk_52_method_83_code 2 (some .char) [] ({ frames := 3, cells := 0, slots := 0, locals := 40 } : Room) #[(.ref ta), (.int (3 : Int32))] h0 (fun v h' => v = (some (.int cc)) ∧ h' = h0) := by
  refine Con.mk (plainFor_of_name pn_0) hEL hE0 (fun x hx => by cases hx) ?_
  intro p e s m below meth c T0 hby hml hret hnm W0
  rw [(show entryFrame m #[(.ref ta), (.int (3 : Int32))] 2 = mkF m 0 #[.val (.ref ta), .val (.int (3 : Int32))] [] from by first | (simp [entryFrame, mkF, argsToLocals, Value.category]; done) | rfl)]
  refine Go.by (fun t9_ q9_ => XS.iloadN W0.here W0.hx rfl (hb hby dc_jdk_52_method_83_code_0) rfl (XS.aloadN W0.here W0.hx rfl (hb hby dc_jdk_52_method_83_code_1) rfl rfl q9_)) ?_
  show Go p e below s Z [] _ _ _ (T0.setTop (mkF m 2 #[.val (.ref ta), .val (.int (3 : Int32))] [(.ref ta), (.int (3 : Int32))]))
  refine W0.callSp (y := (⟨"java/lang/StringUTF16", "checkIndex", "(I[B)V"⟩ : MethodName)) (wd101 hw) (wd102 hw) (wd17 hw) (wd103 hw) (by decide) (c_uci4 l Z a0 hw hEL h0 hE0 (3 : Int32) ta k_ta vs fm SFM rfm A_t (by decide) (by decide)) all0 (by decide) (by decide) (k' := 0) (n' := 0) rfl rfl (by decide) (by decide) (by rw [hml]; rfl) (argsL := [(.int (3 : Int32)), (.ref ta)]) (rest := []) (lenOf pd_11 rfl) rfl rfl (Wt := 0) (Nat.le_of_eq rfl) (hb hby dc_jdk_52_method_83_code_2) ?_
  intro T637 W638
  show Go p e below s Z [] _ _ _ (T637.setTop (mkF m 5 #[.val (.ref ta), .val (.int (3 : Int32))] []))
  refine Go.by (fun t9_ q9_ => XS.aloadN W638.here W638.hx rfl (hb hby dc_jdk_52_method_83_code_5) rfl rfl (XS.iloadN W638.here W638.hx rfl (hb hby dc_jdk_52_method_83_code_6) rfl q9_)) ?_
  show Go p e below s Z [] _ _ _ (T637.setTop (mkF m 7 #[.val (.ref ta), .val (.int (3 : Int32))] [(.int (3 : Int32)), (.ref ta)]))
  refine W638.callSp (y := (⟨"java/lang/StringUTF16", "getChar", "([BI)C"⟩ : MethodName)) (wd95 hw) (wd96 hw) (wd17 hw) (wd97 hw) (by decide) (c_get4_3 l Z a0 hw hEL h0 W638.old ta k_ta vs uu vv cc SAD SHI SLO A_t hu hv hp r_c) all0 (by decide) (by decide) (k' := 0) (n' := 0) rfl rfl (by decide) (by decide) (by rw [hml]; rfl) (argsL := [(.ref ta), (.int (3 : Int32))]) (rest := []) (lenOf pd_5 rfl) rfl rfl (Wt := 0) (Nat.le_of_eq rfl) (hb hby dc_jdk_52_method_83_code_7) ?_
  intro T639 W640
  show Go p e below s Z [] _ _ _ (T639.setTop (mkF m 10 #[.val (.ref ta), .val (.int (3 : Int32))] [(.int cc)]))
  exact W640.retN (z' := cc) (by decide) (by decide) hret (by simp) (hb hby dc_jdk_52_method_83_code_10) (nar_id r_c) ⟨rfl, rfl⟩
set_option maxRecDepth 65536 in
set_option maxHeartbeats 40000000 in
theorem c_at4_3 (l : Launch) (Z : State) (a0 : Array Value) (hw : ∀ d ∈ tables_1, d.before a0 Z = true) (hEL : EW Z a0 []) (h0 : Heap) (hE0 : Ext Z.heap h0) (xa ta : Addr) (k_ta : ClassId) (vs : List Value) (uu vv cc G1 : Int32) (fm : Value) (SG1 : Sta Z Z.heap "java/lang/String" "COMPACT_STRINGS" "Z" (.int G1)) (hG : ¬ G1 = 0) (SAD : Sta Z Z.heap "java/lang/StringUTF16" "$assertionsDisabled" "Z" (.int 1)) (SHI : Sta Z Z.heap "java/lang/StringUTF16" "HI_BYTE_SHIFT" "I" (.int 0)) (SLO : Sta Z Z.heap "java/lang/StringUTF16" "LO_BYTE_SHIFT" "I" (.int 8)) (SFM : Sta Z Z.heap "jdk/internal/util/Preconditions" "SIOOBE_FORMATTER" "Ljava/util/function/BiFunction;" fm) (rfm : fm.isRef = true) (E_x : Exa Z h0 xa "java/lang/String") (FV : Fld Z h0 xa "java/lang/String" "value" "[B" (.ref ta)) (FC : Fld Z h0 xa "java/lang/String" "coder" "B" (.int 1)) (A_t : Arv Z h0 ta k_ta .byte (8 : Int32) vs (.int (0 : Int32))) (hu : vs.getD 6 (.int (0 : Int32)) = .int uu) (hv : vs.getD 7 (.int (0 : Int32)) = .int vv) (hp : StrChars.pairCh uu vv = cc) (r_c : ¬ cc < 0 ∧ ¬ (65535 : Int32) < cc) :
    Con l Z [] [] (⟨"java/lang/String", "charAt", "(I)C"⟩ : MethodName) jdk_42_method_56_code 2 (some .char) [] ({ frames := 4, cells := 0, slots := 0, locals := 53 } : Room) #[(.ref xa), (.int (3 : Int32))] h0 (fun v h' => v = (some (.int cc)) ∧ h' = h0) := by
  refine Con.mk (plainFor_of_name pn_1) hEL hE0 (fun x hx => by cases hx) ?_
  intro p e s m below meth c T0 hby hml hret hnm W0
  rw [(show entryFrame m #[(.ref xa), (.int (3 : Int32))] 2 = mkF m 0 #[.val (.ref xa), .val (.int (3 : Int32))] [] from by first | (simp [entryFrame, mkF, argsToLocals, Value.category]; done) | rfl)]
  refine Go.by (fun t9_ q9_ => XS.aloadN W0.here W0.hx rfl (hb hby dc_jdk_42_method_56_code_0) rfl rfl q9_) ?_
  show Go p e below s Z [] _ _ _ (T0.setTop (mkF m 1 #[.val (.ref xa), .val (.int (3 : Int32))] [(.ref xa)]))
  refine W0.callVp (y := (⟨"java/lang/String", "isLatin1", "()Z"⟩ : MethodName)) (z := (⟨"java/lang/String", "isLatin1", "()Z"⟩ : MethodName)) (wd62 hw) (wd63 hw) (nf_sel rfl (wd65 hw)) (wd65 hw) (wd64 hw) (wd3 hw) (wd66 hw) (by decide) E_x (a := xa) (c_isl l Z a0 hw hEL h0 hE0 xa G1 SG1 hG FC) all0 (by decide) (by decide) (k' := 0) (n' := 0) rfl rfl (by decide) (by decide) (by rw [hml]; rfl) (argsL := []) (rest := []) (lenOf pd_12 rfl) rfl rfl (Wt := 0) (Nat.le_of_eq rfl) (hb hby dc_jdk_42_method_56_code_1) ?_
  intro T641 W642
  show Go p e below s Z [] _ _ _ (T641.setTop (mkF m 4 #[.val (.ref xa), .val (.int (3 : Int32))] [(.int (0 : Int32))]))
  refine Go.by (fun t9_ q9_ => XS.ifYes W642.here W642.hx rfl (pc0 := 4) (pc' := 16) rfl (hb hby dc_jdk_42_method_56_code_4) rfl ((if0 _ _).trans (teq rfl).1) (by decide) (by decide) q9_) ?_
  show Go p e below s Z [] _ _ _ (T641.setTop (mkF m 16 #[.val (.ref xa), .val (.int (3 : Int32))] []))
  refine Go.by (fun t9_ q9_ => XS.aloadN W642.here W642.hx rfl (hb hby dc_jdk_42_method_56_code_16) rfl rfl q9_) ?_
  show Go p e below s Z [] _ _ _ (T641.setTop (mkF m 17 #[.val (.ref xa), .val (.int (3 : Int32))] [(.ref xa)]))
  refine W642.getf (host := "") (Or.inl (wd28 hw)) Via.refl FV (hb hby dc_jdk_42_method_56_code_17) ?_
  intro T643 W644
  show Go p e below s Z [] _ _ _ (T643.setTop (mkF m 20 #[.val (.ref xa), .val (.int (3 : Int32))] [(.ref ta)]))
  refine Go.by (fun t9_ q9_ => XS.iloadN W644.here W644.hx rfl (hb hby dc_jdk_42_method_56_code_20) rfl q9_) ?_
  show Go p e below s Z [] _ _ _ (T643.setTop (mkF m 21 #[.val (.ref xa), .val (.int (3 : Int32))] [(.int (3 : Int32)), (.ref ta)]))
  refine W644.callSp (y := (⟨"java/lang/StringUTF16", "charAt", "([BI)C"⟩ : MethodName)) (wd98 hw) (wd99 hw) (wd17 hw) (wd100 hw) (by decide) (c_uca4_3 l Z a0 hw hEL h0 W644.old ta k_ta vs uu vv cc fm SAD SHI SLO SFM rfm A_t hu hv hp r_c) all0 (by decide) (by decide) (k' := 0) (n' := 0) rfl rfl (by decide) (by decide) (by rw [hml]; rfl) (argsL := [(.ref ta), (.int (3 : Int32))]) (rest := []) (lenOf pd_5 rfl) rfl rfl (Wt := 0) (Nat.le_of_eq rfl) (hb hby dc_jdk_42_method_56_code_21) ?_
  intro T645 W646
  show Go p e below s Z [] _ _ _ (T645.setTop (mkF m 24 #[.val (.ref xa), .val (.int (3 : Int32))] [(.int cc)]))
  exact W646.retN (z' := cc) (by decide) (by decide) hret (by simp) (hb hby dc_jdk_42_method_56_code_24) (nar_id r_c) ⟨rfl, rfl⟩
set_option maxRecDepth 65536 in
set_option maxHeartbeats 40000000 in
theorem c_rnn (l : Launch) (Z : State) (a0 : Array Value) (hw : ∀ d ∈ tables_1, d.before a0 Z = true) (hEL : EW Z a0 []) (h0 : Heap) (hE0 : Ext Z.heap h0) (xa mm : Addr)  :
    Con l Z [] [] (⟨"java/util/Objects", "requireNonNull", "(Ljava/lang/Object;Ljava/lang/String;)Ljava/lang/Object;"⟩ : MethodName) jdk_31_method_11_code 2 (some (.object "java/lang/Object")) [] ({ frames := 0, cells := 0, slots := 0, locals := 0 } : Room) #[(.ref xa), (.ref mm)] h0 (fun v h' => v = (some (.ref xa)) ∧ h' = h0) := by
  refine Con.mk (plainFor_of_name pn_3) hEL hE0 (fun x hx => by cases hx) ?_
  intro p e s m below meth c T0 hby hml hret hnm W0
  rw [(show entryFrame m #[(.ref xa), (.ref mm)] 2 = mkF m 0 #[.val (.ref xa), .val (.ref mm)] [] from by first | (simp [entryFrame, mkF, argsToLocals, Value.category]; done) | rfl)]
  refine Go.by (fun t9_ q9_ => XS.aloadN W0.here W0.hx rfl (hb hby dc_jdk_31_method_11_code_0) rfl rfl q9_) ?_
  show Go p e below s Z [] _ _ _ (T0.setTop (mkF m 1 #[.val (.ref xa), .val (.ref mm)] [(.ref xa)]))
  refine Go.by (fun t9_ q9_ => XS.ifnonnullYes W0.here W0.hx rfl (pc0 := 1) (pc' := 13) rfl (hb hby dc_jdk_31_method_11_code_1) rfl (by decide) (by decide) q9_) ?_
  show Go p e below s Z [] _ _ _ (T0.setTop (mkF m 13 #[.val (.ref xa), .val (.ref mm)] []))
  refine Go.by (fun t9_ q9_ => XS.aloadN W0.here W0.hx rfl (hb hby dc_jdk_31_method_11_code_13) rfl rfl q9_) ?_
  show Go p e below s Z [] _ _ _ (T0.setTop (mkF m 14 #[.val (.ref xa), .val (.ref mm)] [(.ref xa)]))
  exact W0.retA (by decide) (by decide) hret rfl rfl (hb hby dc_jdk_31_method_11_code_14) ⟨rfl, rfl⟩
set_option maxRecDepth 65536 in
set_option maxHeartbeats 40000000 in
theorem c_ise (l : Launch) (Z : State) (a0 : Array Value) (hw : ∀ d ∈ tables_1, d.before a0 Z = true) (hEL : EW Z a0 []) (h0 : Heap) (hE0 : Ext Z.heap h0) (xa ta : Addr) (kt : ClassId) (N2 : Int32) (vs : List Value) (FV : Fld Z h0 xa "java/lang/String" "value" "[B" (.ref ta)) (A_t : Arv Z h0 ta kt .byte N2 vs (.int (0 : Int32))) (hN : ¬ N2 = 0) :
    Con l Z [] [] (⟨"java/lang/String", "isEmpty", "()Z"⟩ : MethodName) jdk_42_method_55_code 1 (some .boolean) [] ({ frames := 0, cells := 0, slots := 0, locals := 0 } : Room) #[(.ref xa)] h0 (fun v h' => v = (some (.int 0)) ∧ h' = h0) := by
  refine Con.mk (plainFor_of_name pn_1) hEL hE0 (fun x hx => by cases hx) ?_
  intro p e s m below meth c T0 hby hml hret hnm W0
  rw [(show entryFrame m #[(.ref xa)] 1 = mkF m 0 #[.val (.ref xa)] [] from by first | (simp [entryFrame, mkF, argsToLocals, Value.category]; done) | rfl)]
  refine Go.by (fun t9_ q9_ => XS.aloadN W0.here W0.hx rfl (hb hby dc_jdk_42_method_55_code_0) rfl rfl q9_) ?_
  show Go p e below s Z [] _ _ _ (T0.setTop (mkF m 1 #[.val (.ref xa)] [(.ref xa)]))
  refine W0.getf (host := "") (Or.inl (wd28 hw)) Via.refl FV (hb hby dc_jdk_42_method_55_code_1) ?_
  intro T647 W648
  show Go p e below s Z [] _ _ _ (T647.setTop (mkF m 4 #[.val (.ref xa)] [(.ref ta)]))
  refine W648.alen A_t (hb hby dc_jdk_42_method_55_code_4) ?_
  show Go p e below s Z [] _ _ _ (T647.setTop (mkF m 5 #[.val (.ref xa)] [(.int N2)]))
  refine Go.by (fun t9_ q9_ => XS.ifYes W648.here W648.hx rfl (pc0 := 5) (pc' := 12) rfl (hb hby dc_jdk_42_method_55_code_5) rfl ((if0 _ _).trans (feq hN).2) (by decide) (by decide) q9_) ?_
  show Go p e below s Z [] _ _ _ (T647.setTop (mkF m 12 #[.val (.ref xa)] []))
  refine Go.by (fun t9_ q9_ => XS.iconst W648.here W648.hx rfl (hb hby dc_jdk_42_method_55_code_12) q9_) ?_
  show Go p e below s Z [] _ _ _ (T647.setTop (mkF m 13 #[.val (.ref xa)] [(.int (0 : Int32))]))
  exact W648.retN (z' := (0 : Int32)) (by decide) (by decide) hret (by simp) (hb hby dc_jdk_42_method_55_code_13) rfl ⟨rfl, rfl⟩
set_option maxRecDepth 65536 in
set_option maxHeartbeats 40000000 in
theorem c_rpn (l : Launch) (Z : State) (a0 : Array Value) (hw : ∀ d ∈ tables_1, d.before a0 Z = true) (hEL : EW Z a0 []) (h0 : Heap) (hE0 : Ext Z.heap h0) (xa ta : Addr) (kt : ClassId) (N2 : Int32) (vs : List Value) (E_x : Exa Z h0 xa "java/lang/String") (FV : Fld Z h0 xa "java/lang/String" "value" "[B" (.ref ta)) (A_t : Arv Z h0 ta kt .byte N2 vs (.int (0 : Int32))) (hN : ¬ N2 = 0) :
    Con l Z [] [] (⟨"com/example/admit/admit/model/AclEntry", "requirePrivilegeName", "(Ljava/lang/String;)Ljava/lang/String;"⟩ : MethodName) prog_16_method_3_code 1 (some (.object "java/lang/String")) [] ({ frames := 1, cells := 2, slots := 40, locals := 13 } : Room) #[(.ref xa)] h0 (fun v h' => v = some (.ref xa) ∧ Ext h0 h') := by
  refine Con.mk (plainFor_of_name pn_4) hEL hE0 (fun x hx => by cases hx) ?_
  intro p e s m below meth c T0 hby hml hret hnm W0
  rw [(show entryFrame m #[(.ref xa)] 1 = mkF m 0 #[.val (.ref xa)] [] from by first | (simp [entryFrame, mkF, argsToLocals, Value.category]; done) | rfl)]
  refine Go.by (fun t9_ q9_ => XS.aloadN W0.here W0.hx rfl (hb hby dc_prog_16_method_3_code_0) rfl rfl q9_) ?_
  show Go p e below s Z [] _ _ _ (T0.setTop (mkF m 1 #[.val (.ref xa)] [(.ref xa)]))
  refine W0.ldcO (wd34 hw) (k_sa hw) (hb hby dc_prog_16_method_3_code_1) (q := 36) (by decide +kernel) (by decide) (k' := 2) (n' := 40) rfl rfl (by decide) (by decide) ?_
  intro T649 h650 lm W651 E652
  show Go p e below s Z [] _ _ _ (T649.setTop (mkF m 3 #[.val (.ref xa)] [(.ref lm), (.ref xa)]))
  refine W651.callSp (y := (⟨"java/util/Objects", "requireNonNull", "(Ljava/lang/Object;Ljava/lang/String;)Ljava/lang/Object;"⟩ : MethodName)) (wd37 hw) (wd38 hw) (wd39 hw) (wd40 hw) (by decide) (c_rnn l Z a0 hw hEL h650 W651.old xa lm) all0 (by decide) (by decide) (k' := 2) (n' := 40) rfl rfl (by decide) (by decide) (by rw [hml]; rfl) (argsL := [(.ref xa), (.ref lm)]) (rest := []) (lenOf pd_13 rfl) rfl rfl (Wt := 0) (Nat.le_of_eq rfl) (hb hby dc_prog_16_method_3_code_3) ?_
  intro T653 W654
  show Go p e below s Z [] _ _ _ (T653.setTop (mkF m 6 #[.val (.ref xa)] [(.ref xa)]))
  refine W654.castY (wd41 hw) (Ins.self (E_x.ext E652)) (hb hby dc_prog_16_method_3_code_6) ?_
  intro T655 W656
  show Go p e below s Z [] _ _ _ (T655.setTop (mkF m 9 #[.val (.ref xa)] [(.ref xa)]))
  refine W656.callVp (y := (⟨"java/lang/String", "isEmpty", "()Z"⟩ : MethodName)) (z := (⟨"java/lang/String", "isEmpty", "()Z"⟩ : MethodName)) (wd42 hw) (wd43 hw) (nf_sel rfl (wd45 hw)) (wd45 hw) (wd44 hw) (wd3 hw) (wd46 hw) (by decide) (E_x.ext E652) (a := xa) (c_ise l Z a0 hw hEL h650 W656.old xa ta kt N2 vs (FV.ext E652) (A_t.ext E652) hN) all0 (by decide) (by decide) (k' := 2) (n' := 40) rfl rfl (by decide) (by decide) (by rw [hml]; rfl) (argsL := []) (rest := []) (lenOf pd_12 rfl) rfl rfl (Wt := 0) (Nat.le_of_eq rfl) (hb hby dc_prog_16_method_3_code_9) ?_
  intro T657 W658
  show Go p e below s Z [] _ _ _ (T657.setTop (mkF m 12 #[.val (.ref xa)] [(.int (0 : Int32))]))
  refine Go.by (fun t9_ q9_ => XS.ifYes W658.here W658.hx rfl (pc0 := 12) (pc' := 25) rfl (hb hby dc_prog_16_method_3_code_12) rfl ((if0 _ _).trans (teq rfl).1) (by decide) (by decide) q9_) ?_
  show Go p e below s Z [] _ _ _ (T657.setTop (mkF m 25 #[.val (.ref xa)] []))
  refine Go.by (fun t9_ q9_ => XS.aloadN W658.here W658.hx rfl (hb hby dc_prog_16_method_3_code_25) rfl rfl q9_) ?_
  show Go p e below s Z [] _ _ _ (T657.setTop (mkF m 26 #[.val (.ref xa)] [(.ref xa)]))
  exact W658.retA (by decide) (by decide) hret rfl rfl (hb hby dc_prog_16_method_3_code_26) ⟨rfl, E652⟩
set_option maxRecDepth 65536 in
set_option maxHeartbeats 40000000 in
theorem c_law (l : Launch) (Z : State) (a0 : Array Value) (hw : ∀ d ∈ tables_1, d.before a0 Z = true) (hEL : EW Z a0 []) (h0 : Heap) (hE0 : Ext Z.heap h0) (p0 p1 p2 p3 p4 G1 : Int32) (fm : Value) (SAD : Sta Z Z.heap "java/lang/StringUTF16" "$assertionsDisabled" "Z" (.int 1)) (SHI : Sta Z Z.heap "java/lang/StringUTF16" "HI_BYTE_SHIFT" "I" (.int 0)) (SLO : Sta Z Z.heap "java/lang/StringUTF16" "LO_BYTE_SHIFT" "I" (.int 8)) (SG1 : Sta Z Z.heap "java/lang/String" "COMPACT_STRINGS" "Z" (.int G1)) (hG : ¬ G1 = 0) (SFM : Sta Z Z.heap "jdk/internal/util/Preconditions" "SIOOBE_FORMATTER" "Ljava/util/function/BiFunction;" fm) (rfm : fm.isRef = true) :
    Con l Z [] [] x code maxLocals ret tables_1 room_1 #[(.int p0), (.int p1), (.int p2), (.int p3), (.int p4)] h0 (fun v h' => v = some (.int 1)) := by
  refine Con.mk (plainFor_of_name pn_5) hEL hE0 (fun x hx => by cases hx) ?_
  intro p e s m below meth c T0 hby hml hret hnm W0
  rw [(show entryFrame m #[(.int p0), (.int p1), (.int p2), (.int p3), (.int p4)] maxLocals = mkF m 0 #[.val (.int p0), .val (.int p1), .val (.int p2), .val (.int p3), .val (.int p4), .unset, .unset, .unset, .unset, .unset, .unset, .unset, .unset] [] from by first | (simp [entryFrame, mkF, argsToLocals, Value.category, maxLocals]; done) | rfl)]
  refine Go.by (fun t9_ q9_ => XS.iload W0.here W0.hx rfl (hb hby at_0) rfl (XS.iconst W0.here W0.hx rfl (hb hby at_2) (XS.iand W0.here W0.hx rfl (hb hby at_3) rfl (XS.iconst W0.here W0.hx rfl (hb hby at_4) (XS.iadd W0.here W0.hx rfl (hb hby at_5) rfl (XS.istore W0.here W0.hx rfl (hb hby at_6) rfl (l' := #[.val (.int p0), .val (.int p1), .val (.int p2), .val (.int p3), .val (.int p4), .val (.int ((p4 &&& (3 : Int32)) + (1 : Int32))), .unset, .unset, .unset, .unset, .unset, .unset, .unset]) rfl q9_)))))) ?_
  show Go p e below s Z [] _ _ _ (T0.setTop (mkF m 8 #[.val (.int p0), .val (.int p1), .val (.int p2), .val (.int p3), .val (.int p4), .val (.int ((p4 &&& (3 : Int32)) + (1 : Int32))), .unset, .unset, .unset, .unset, .unset, .unset, .unset] []))
  obtain ⟨ln, h_ln⟩ : ∃ z : Int32, z = ((p4 &&& (3 : Int32)) + (1 : Int32)) := ⟨_, rfl⟩
  rw [← h_ln]
  show Go p e below s Z [] _ _ _ (T0.setTop (mkF m 8 #[.val (.int p0), .val (.int p1), .val (.int p2), .val (.int p3), .val (.int p4), .val (.int ln), .unset, .unset, .unset, .unset, .unset, .unset, .unset] []))
  have hl : ln = 1 ∨ ln = 2 ∨ ln = 3 ∨ ln = 4 := by rcases and3 p4 with q_ | q_ | q_ | q_ <;> rw [q_] at h_ln <;> subst h_ln <;> decide
  clear h_ln
  refine Go.by (fun t9_ q9_ => XS.iloadN W0.here W0.hx rfl (hb hby at_8) rfl (XS.i2c W0.here W0.hx rfl (hb hby at_9) rfl (XS.istore W0.here W0.hx rfl (hb hby at_10) rfl (l' := #[.val (.int p0), .val (.int p1), .val (.int p2), .val (.int p3), .val (.int p4), .val (.int ln), .val (.int (p0.toUInt32.toUInt16.toUInt32.toInt32)), .unset, .unset, .unset, .unset, .unset, .unset]) rfl (XS.iloadN W0.here W0.hx rfl (hb hby at_12) rfl (XS.i2c W0.here W0.hx rfl (hb hby at_13) rfl (XS.istore W0.here W0.hx rfl (hb hby at_14) rfl (l' := #[.val (.int p0), .val (.int p1), .val (.int p2), .val (.int p3), .val (.int p4), .val (.int ln), .val (.int (p0.toUInt32.toUInt16.toUInt32.toInt32)), .val (.int (p1.toUInt32.toUInt16.toUInt32.toInt32)), .unset, .unset, .unset, .unset, .unset]) rfl (XS.iloadN W0.here W0.hx rfl (hb hby at_16) rfl (XS.i2c W0.here W0.hx rfl (hb hby at_17) rfl (XS.istore W0.here W0.hx rfl (hb hby at_18) rfl (l' := #[.val (.int p0), .val (.int p1), .val (.int p2), .val (.int p3), .val (.int p4), .val (.int ln), .val (.int (p0.toUInt32.toUInt16.toUInt32.toInt32)), .val (.int (p1.toUInt32.toUInt16.toUInt32.toInt32)), .val (.int (p2.toUInt32.toUInt16.toUInt32.toInt32)), .unset, .unset, .unset, .unset]) rfl (XS.iloadN W0.here W0.hx rfl (hb hby at_20) rfl (XS.i2c W0.here W0.hx rfl (hb hby at_21) rfl (XS.istore W0.here W0.hx rfl (hb hby at_22) rfl (l' := #[.val (.int p0), .val (.int p1), .val (.int p2), .val (.int p3), .val (.int p4), .val (.int ln), .val (.int (p0.toUInt32.toUInt16.toUInt32.toInt32)), .val (.int (p1.toUInt32.toUInt16.toUInt32.toInt32)), .val (.int (p2.toUInt32.toUInt16.toUInt32.toInt32)), .val (.int (p3.toUInt32.toUInt16.toUInt32.toInt32)), .unset, .unset, .unset]) rfl q9_)))))))))))) ?_
  show Go p e below s Z [] _ _ _ (T0.setTop (mkF m 24 #[.val (.int p0), .val (.int p1), .val (.int p2), .val (.int p3), .val (.int p4), .val (.int ln), .val (.int (p0.toUInt32.toUInt16.toUInt32.toInt32)), .val (.int (p1.toUInt32.toUInt16.toUInt32.toInt32)), .val (.int (p2.toUInt32.toUInt16.toUInt32.toInt32)), .val (.int (p3.toUInt32.toUInt16.toUInt32.toInt32)), .unset, .unset, .unset] []))
  obtain ⟨u0, h_u0⟩ : ∃ z : Int32, z = (p0.toUInt32.toUInt16.toUInt32.toInt32) := ⟨_, rfl⟩
  rw [← h_u0]
  show Go p e below s Z [] _ _ _ (T0.setTop (mkF m 24 #[.val (.int p0), .val (.int p1), .val (.int p2), .val (.int p3), .val (.int p4), .val (.int ln), .val (.int u0), .val (.int (p1.toUInt32.toUInt16.toUInt32.toInt32)), .val (.int (p2.toUInt32.toUInt16.toUInt32.toInt32)), .val (.int (p3.toUInt32.toUInt16.toUInt32.toInt32)), .unset, .unset, .unset] []))
  have r_u0 : ¬ u0 < 0 ∧ ¬ (65535 : Int32) < u0 := by rw [h_u0]; exact i2c_rng _
  clear h_u0
  obtain ⟨u1, h_u1⟩ : ∃ z : Int32, z = (p1.toUInt32.toUInt16.toUInt32.toInt32) := ⟨_, rfl⟩
  rw [← h_u1]
  show Go p e below s Z [] _ _ _ (T0.setTop (mkF m 24 #[.val (.int p0), .val (.int p1), .val (.int p2), .val (.int p3), .val (.int p4), .val (.int ln), .val (.int u0), .val (.int u1), .val (.int (p2.toUInt32.toUInt16.toUInt32.toInt32)), .val (.int (p3.toUInt32.toUInt16.toUInt32.toInt32)), .unset, .unset, .unset] []))
  have r_u1 : ¬ u1 < 0 ∧ ¬ (65535 : Int32) < u1 := by rw [h_u1]; exact i2c_rng _
  clear h_u1
  obtain ⟨u2, h_u2⟩ : ∃ z : Int32, z = (p2.toUInt32.toUInt16.toUInt32.toInt32) := ⟨_, rfl⟩
  rw [← h_u2]
  show Go p e below s Z [] _ _ _ (T0.setTop (mkF m 24 #[.val (.int p0), .val (.int p1), .val (.int p2), .val (.int p3), .val (.int p4), .val (.int ln), .val (.int u0), .val (.int u1), .val (.int u2), .val (.int (p3.toUInt32.toUInt16.toUInt32.toInt32)), .unset, .unset, .unset] []))
  have r_u2 : ¬ u2 < 0 ∧ ¬ (65535 : Int32) < u2 := by rw [h_u2]; exact i2c_rng _
  clear h_u2
  obtain ⟨u3, h_u3⟩ : ∃ z : Int32, z = (p3.toUInt32.toUInt16.toUInt32.toInt32) := ⟨_, rfl⟩
  rw [← h_u3]
  show Go p e below s Z [] _ _ _ (T0.setTop (mkF m 24 #[.val (.int p0), .val (.int p1), .val (.int p2), .val (.int p3), .val (.int p4), .val (.int ln), .val (.int u0), .val (.int u1), .val (.int u2), .val (.int u3), .unset, .unset, .unset] []))
  have r_u3 : ¬ u3 < 0 ∧ ¬ (65535 : Int32) < u3 := by rw [h_u3]; exact i2c_rng _
  clear h_u3
  rcases hl with rfl | rfl | rfl | rfl
  · show Go p e below s Z [] _ _ _ (T0.setTop (mkF m 24 #[.val (.int p0), .val (.int p1), .val (.int p2), .val (.int p3), .val (.int p4), .val (.int (1 : Int32)), .val (.int u0), .val (.int u1), .val (.int u2), .val (.int u3), .unset, .unset, .unset] []))
    refine Go.by (fun t9_ q9_ => XS.iload W0.here W0.hx rfl (hb hby at_24) rfl (XS.iconst W0.here W0.hx rfl (hb hby at_26) q9_)) ?_
    show Go p e below s Z [] _ _ _ (T0.setTop (mkF m 27 #[.val (.int p0), .val (.int p1), .val (.int p2), .val (.int p3), .val (.int p4), .val (.int (1 : Int32)), .val (.int u0), .val (.int u1), .val (.int u2), .val (.int u3), .unset, .unset, .unset] [(.int (1 : Int32)), (.int (1 : Int32))]))
    refine Go.by (fun t9_ q9_ => XS.icmpNo W0.here W0.hx rfl (hb hby at_27) rfl (teq rfl).2 q9_) ?_
    show Go p e below s Z [] _ _ _ (T0.setTop (mkF m 30 #[.val (.int p0), .val (.int p1), .val (.int p2), .val (.int p3), .val (.int p4), .val (.int (1 : Int32)), .val (.int u0), .val (.int u1), .val (.int u2), .val (.int u3), .unset, .unset, .unset] []))
    refine Go.by (fun t9_ q9_ => XS.iconst W0.here W0.hx rfl (hb hby at_30) q9_) ?_
    show Go p e below s Z [] _ _ _ (T0.setTop (mkF m 31 #[.val (.int p0), .val (.int p1), .val (.int p2), .val (.int p3), .val (.int p4), .val (.int (1 : Int32)), .val (.int u0), .val (.int u1), .val (.int u2), .val (.int u3), .unset, .unset, .unset] [(.int (1 : Int32))]))
    refine W0.newp (aty := .char) (wd0 hw) (hb hby at_31) (by decide) (cap := 1) (by decide) (by decide) (k' := 1) (n' := 1) rfl rfl (by decide) (by decide) (ad := "[C") rfl ?_
    intro T659 h660 ba k_ba W661 E662 g_ba z_ba A_ba V_ba
    have V1_ba : Arv Z h660 ba k_ba .char (1 : Int32) [(.int (0 : Int32))] (.int (0 : Int32)) := V_ba.pad (pad_rep [] (.int (0 : Int32)) 1)
    show Go p e below s Z [] _ _ _ (T659.setTop (mkF m 33 #[.val (.int p0), .val (.int p1), .val (.int p2), .val (.int p3), .val (.int p4), .val (.int (1 : Int32)), .val (.int u0), .val (.int u1), .val (.int u2), .val (.int u3), .unset, .unset, .unset] [(.ref ba)]))
    refine Go.by (fun t9_ q9_ => XS.dup W661.here W661.hx rfl (hb hby at_33) rfl rfl (XS.iconst W661.here W661.hx rfl (hb hby at_34) (XS.iload W661.here W661.hx rfl (hb hby at_35) rfl q9_))) ?_
    show Go p e below s Z [] _ _ _ (T659.setTop (mkF m 37 #[.val (.int p0), .val (.int p1), .val (.int p2), .val (.int p3), .val (.int p4), .val (.int (1 : Int32)), .val (.int u0), .val (.int u1), .val (.int u2), .val (.int u3), .unset, .unset, .unset] [(.int u0), (.int (0 : Int32)), (.ref ba), (.ref ba)]))
    refine W661.cast_ V1_ba ⟨by decide, by decide⟩ (i := 0) rfl (by simp) (v' := u0) (nar_id r_u0) z_ba (List.mem_of_getElem? (i := 0) rfl) (hb hby at_37) ?_
    intro T663 h664 W665 Wr666 V667_ba'
    have V667_ba : Arv Z h664 ba k_ba .char (1 : Int32) [(.int u0)] (.int (0 : Int32)) := V667_ba'
    show Go p e below s Z [] _ _ _ (T663.setTop (mkF m 38 #[.val (.int p0), .val (.int p1), .val (.int p2), .val (.int p3), .val (.int p4), .val (.int (1 : Int32)), .val (.int u0), .val (.int u1), .val (.int u2), .val (.int u3), .unset, .unset, .unset] [(.ref ba)]))
    refine Go.by (fun t9_ q9_ => XS.astore W665.here W665.hx rfl (hb hby at_38) rfl rfl (l' := #[.val (.int p0), .val (.int p1), .val (.int p2), .val (.int p3), .val (.int p4), .val (.int (1 : Int32)), .val (.int u0), .val (.int u1), .val (.int u2), .val (.int u3), .val (.ref ba), .unset, .unset]) rfl (XS.goto W665.here W665.hx rfl (pc0 := 40) (pc' := 121) rfl (hb hby at_40) (by decide) (by decide) q9_)) ?_
    show Go p e below s Z [] _ _ _ (T663.setTop (mkF m 121 #[.val (.int p0), .val (.int p1), .val (.int p2), .val (.int p3), .val (.int p4), .val (.int (1 : Int32)), .val (.int u0), .val (.int u1), .val (.int u2), .val (.int u3), .val (.ref ba), .unset, .unset] []))
    refine W665.new (wd1 hw) (wd2 hw) (wd3 hw) (hb hby at_121) (k' := 2) (n' := 5) rfl rfl (by decide) (by decide) ?_
    intro T668 h669 r W670 E671 g_r z_r A_r D_r
    have F_coder_r : Fld Z h669 r "java/lang/String" "coder" "B" (.int (0 : Int32)) := D_r (Or.inr (wd27 hw)) (ty := .byte) (by decide)
    have F_value_r : Fld Z h669 r "java/lang/String" "value" "[B" .null := D_r (Or.inr (wd29 hw)) (ty := (.array .byte)) (by decide)
    show Go p e below s Z [] _ _ _ (T668.setTop (mkF m 124 #[.val (.int p0), .val (.int p1), .val (.int p2), .val (.int p3), .val (.int p4), .val (.int (1 : Int32)), .val (.int u0), .val (.int u1), .val (.int u2), .val (.int u3), .val (.ref ba), .unset, .unset] [(.ref r)]))
    refine Go.by (fun t9_ q9_ => XS.dup W670.here W670.hx rfl (hb hby at_124) rfl rfl (XS.aload W670.here W670.hx rfl (hb hby at_125) rfl rfl q9_)) ?_
    show Go p e below s Z [] _ _ _ (T668.setTop (mkF m 127 #[.val (.int p0), .val (.int p1), .val (.int p2), .val (.int p3), .val (.int p4), .val (.int (1 : Int32)), .val (.int u0), .val (.int u1), .val (.int u2), .val (.int u3), .val (.ref ba), .unset, .unset] [(.ref ba), (.ref r), (.ref r)]))
    by_cases hbig : (255 : Int32) < u0
    · refine W670.callI (y := (⟨"java/lang/String", "<init>", "([C)V"⟩ : MethodName)) rfl (wd4 hw) (wd5 hw) (wd3 hw) (wd6 hw) (by decide) (a := r) (c_s16_1 l Z a0 hw hEL h669 W670.old r ba k_ba u0 G1 A_r F_value_r F_coder_r z_r SAD SHI SLO SG1 hG (V667_ba.ext E671) r_u0 hbig) (allS (List.mem_of_getElem? (i := 0) rfl) all0) (by decide) (by decide) (k' := 4) (n' := 8) rfl rfl (by decide) (by decide) (by rw [hml]; rfl) (argsL := [(.ref ba)]) (rest := [(.ref r)]) (lenOf pd_14 rfl) rfl rfl (Wt := 1) (Nat.le_of_eq rfl) (hb hby at_127) ?_
      intro v_ T672 h674 W673 hq_
      obtain ⟨rfl, K1, ta, k_ta, E1, FV1, FC1, A1⟩ := hq_
      have S_r : Str Z h674 r [u0] := ⟨ta, k_ta, 1, _, _, E1, FV1, FC1, A1, Or.inr ⟨rfl, rfl, rfl, by simpa using hbig⟩, by simp only [List.mem_cons, List.not_mem_nil, or_false, forall_eq_or_imp, forall_eq]; exact r_u0⟩
      show Go p e below s Z [] _ _ _ (T672.setTop (mkF m 130 #[.val (.int p0), .val (.int p1), .val (.int p2), .val (.int p3), .val (.int p4), .val (.int (1 : Int32)), .val (.int u0), .val (.int u1), .val (.int u2), .val (.int u3), .val (.ref ba), .unset, .unset] [(.ref r)]))
      refine Go.by (fun t9_ q9_ => XS.astore W673.here W673.hx rfl (hb hby at_130) rfl rfl (l' := #[.val (.int p0), .val (.int p1), .val (.int p2), .val (.int p3), .val (.int p4), .val (.int (1 : Int32)), .val (.int u0), .val (.int u1), .val (.int u2), .val (.int u3), .val (.ref ba), .val (.ref r), .unset]) rfl (XS.aload W673.here W673.hx rfl (hb hby at_132) rfl rfl q9_)) ?_
      show Go p e below s Z [] _ _ _ (T672.setTop (mkF m 134 #[.val (.int p0), .val (.int p1), .val (.int p2), .val (.int p3), .val (.int p4), .val (.int (1 : Int32)), .val (.int u0), .val (.int u1), .val (.int u2), .val (.int u3), .val (.ref ba), .val (.ref r), .unset] [(.ref r)]))
      refine W673.callS (y := (⟨"com/example/admit/admit/model/AclEntry", "requirePrivilegeName", "(Ljava/lang/String;)Ljava/lang/String;"⟩ : MethodName)) (wd30 hw) (wd31 hw) (wd32 hw) (wd33 hw) (by decide) (c_rpn l Z a0 hw hEL h674 W673.old r ta k_ta _ _ E1 FV1 A1 (by decide)) all0 (by decide) (by decide) (k' := 6) (n' := 48) rfl rfl (by decide) (by decide) (by rw [hml]; rfl) (argsL := [(.ref r)]) (rest := []) (lenOf pd_15 rfl) rfl rfl (Wt := 0) (Nat.le_of_eq rfl) (hb hby at_134) ?_
      intro v_ T675 h677 W676 hq_
      obtain ⟨rfl, X9⟩ := hq_
      show Go p e below s Z [] _ _ _ (T675.setTop (mkF m 137 #[.val (.int p0), .val (.int p1), .val (.int p2), .val (.int p3), .val (.int p4), .val (.int (1 : Int32)), .val (.int u0), .val (.int u1), .val (.int u2), .val (.int u3), .val (.ref ba), .val (.ref r), .unset] [(.ref r)]))
      refine Go.by (fun t9_ q9_ => XS.astore W676.here W676.hx rfl (hb hby at_137) rfl rfl (l' := #[.val (.int p0), .val (.int p1), .val (.int p2), .val (.int p3), .val (.int p4), .val (.int (1 : Int32)), .val (.int u0), .val (.int u1), .val (.int u2), .val (.int u3), .val (.ref ba), .val (.ref r), .val (.ref r)]) rfl (XS.aload W676.here W676.hx rfl (hb hby at_139) rfl rfl (XS.aload W676.here W676.hx rfl (hb hby at_141) rfl rfl q9_))) ?_
      show Go p e below s Z [] _ _ _ (T675.setTop (mkF m 143 #[.val (.int p0), .val (.int p1), .val (.int p2), .val (.int p3), .val (.int p4), .val (.int (1 : Int32)), .val (.int u0), .val (.int u1), .val (.int u2), .val (.int u3), .val (.ref ba), .val (.ref r), .val (.ref r)] [(.ref r), (.ref r)]))
      refine Go.by (fun t9_ q9_ => acmpW W676 (g := (mkF m 143 #[.val (.int p0), .val (.int p1), .val (.int p2), .val (.int p3), .val (.int p4), .val (.int (1 : Int32)), .val (.int u0), .val (.int u1), .val (.int u2), .val (.int u3), .val (.ref ba), .val (.ref r), .val (.ref r)] [(.ref r), (.ref r)])) rfl rfl rfl (pc0 := 143) (pc' := 148) (same := true) rfl (hb hby at_143) rfl (decide_eq_true rfl) (by decide) (by decide) q9_) ?_
      show Go p e below s Z [] _ _ _ (T675.setTop (mkF m 148 #[.val (.int p0), .val (.int p1), .val (.int p2), .val (.int p3), .val (.int p4), .val (.int (1 : Int32)), .val (.int u0), .val (.int u1), .val (.int u2), .val (.int u3), .val (.ref ba), .val (.ref r), .val (.ref r)] []))
      refine Go.by (fun t9_ q9_ => XS.aload W676.here W676.hx rfl (hb hby at_148) rfl rfl q9_) ?_
      show Go p e below s Z [] _ _ _ (T675.setTop (mkF m 150 #[.val (.int p0), .val (.int p1), .val (.int p2), .val (.int p3), .val (.int p4), .val (.int (1 : Int32)), .val (.int u0), .val (.int u1), .val (.int u2), .val (.int u3), .val (.ref ba), .val (.ref r), .val (.ref r)] [(.ref r)]))
      refine W676.strLen (k_len hw) (wd2 hw) (wd47 hw) (wd48 hw) (wd50 hw) (wd49 hw) (S_r.ext X9) (by simp) (SG1.ext W676.old) hG (by decide) (Wt := 0) (by decide) (by rw [hml]; rfl) (Nat.le_of_eq rfl) (by decide) (by decide) (hb hby at_150) ?_
      intro T678 W679
      show Go p e below s Z [] _ _ _ (T678.setTop (mkF m 153 #[.val (.int p0), .val (.int p1), .val (.int p2), .val (.int p3), .val (.int p4), .val (.int (1 : Int32)), .val (.int u0), .val (.int u1), .val (.int u2), .val (.int u3), .val (.ref ba), .val (.ref r), .val (.ref r)] [(.int (1 : Int32))]))
      refine Go.by (fun t9_ q9_ => XS.iload W679.here W679.hx rfl (hb hby at_153) rfl q9_) ?_
      show Go p e below s Z [] _ _ _ (T678.setTop (mkF m 155 #[.val (.int p0), .val (.int p1), .val (.int p2), .val (.int p3), .val (.int p4), .val (.int (1 : Int32)), .val (.int u0), .val (.int u1), .val (.int u2), .val (.int u3), .val (.ref ba), .val (.ref r), .val (.ref r)] [(.int (1 : Int32)), (.int (1 : Int32))]))
      refine Go.by (fun t9_ q9_ => XS.icmpYes W679.here W679.hx rfl (pc0 := 155) (pc' := 160) rfl (hb hby at_155) rfl (teq rfl).1 (by decide) (by decide) q9_) ?_
      show Go p e below s Z [] _ _ _ (T678.setTop (mkF m 160 #[.val (.int p0), .val (.int p1), .val (.int p2), .val (.int p3), .val (.int p4), .val (.int (1 : Int32)), .val (.int u0), .val (.int u1), .val (.int u2), .val (.int u3), .val (.ref ba), .val (.ref r), .val (.ref r)] []))
      refine Go.by (fun t9_ q9_ => XS.aload W679.here W679.hx rfl (hb hby at_160) rfl rfl (XS.iconst W679.here W679.hx rfl (hb hby at_162) q9_)) ?_
      show Go p e below s Z [] _ _ _ (T678.setTop (mkF m 163 #[.val (.int p0), .val (.int p1), .val (.int p2), .val (.int p3), .val (.int p4), .val (.int (1 : Int32)), .val (.int u0), .val (.int u1), .val (.int u2), .val (.int u3), .val (.ref ba), .val (.ref r), .val (.ref r)] [(.int (0 : Int32)), (.ref r)]))
      refine W679.callVp (y := (⟨"java/lang/String", "charAt", "(I)C"⟩ : MethodName)) (z := (⟨"java/lang/String", "charAt", "(I)C"⟩ : MethodName)) (wd57 hw) (wd58 hw) (nf_sel rfl (wd60 hw)) (wd60 hw) (wd59 hw) (wd3 hw) (wd61 hw) (by decide) (E1.ext X9) (a := r) (c_at1_0 l Z a0 hw hEL h677 W679.old r ta k_ta _ _ _ u0 G1 fm SG1 hG SAD SHI SLO SFM rfm (E1.ext X9) (FV1.ext X9) (FC1.ext X9) (A1.ext X9) rfl rfl (StrChars.pair_says r_u0.1 r_u0.2) r_u0) all0 (by decide) (by decide) (k' := 6) (n' := 48) rfl rfl (by decide) (by decide) (by rw [hml]; rfl) (argsL := [(.int (0 : Int32))]) (rest := []) (lenOf pd_16 rfl) rfl rfl (Wt := 0) (Nat.le_of_eq rfl) (hb hby at_163) ?_
      intro T680 W681
      show Go p e below s Z [] _ _ _ (T680.setTop (mkF m 166 #[.val (.int p0), .val (.int p1), .val (.int p2), .val (.int p3), .val (.int p4), .val (.int (1 : Int32)), .val (.int u0), .val (.int u1), .val (.int u2), .val (.int u3), .val (.ref ba), .val (.ref r), .val (.ref r)] [(.int u0)]))
      refine Go.by (fun t9_ q9_ => XS.iload W681.here W681.hx rfl (hb hby at_166) rfl q9_) ?_
      show Go p e below s Z [] _ _ _ (T680.setTop (mkF m 168 #[.val (.int p0), .val (.int p1), .val (.int p2), .val (.int p3), .val (.int p4), .val (.int (1 : Int32)), .val (.int u0), .val (.int u1), .val (.int u2), .val (.int u3), .val (.ref ba), .val (.ref r), .val (.ref r)] [(.int u0), (.int u0)]))
      refine Go.by (fun t9_ q9_ => XS.icmpYes W681.here W681.hx rfl (pc0 := 168) (pc' := 173) rfl (hb hby at_168) rfl (teq rfl).1 (by decide) (by decide) q9_) ?_
      show Go p e below s Z [] _ _ _ (T680.setTop (mkF m 173 #[.val (.int p0), .val (.int p1), .val (.int p2), .val (.int p3), .val (.int p4), .val (.int (1 : Int32)), .val (.int u0), .val (.int u1), .val (.int u2), .val (.int u3), .val (.ref ba), .val (.ref r), .val (.ref r)] []))
      refine Go.by (fun t9_ q9_ => XS.aload W681.here W681.hx rfl (hb hby at_173) rfl rfl (XS.iload W681.here W681.hx rfl (hb hby at_175) rfl (XS.iconst W681.here W681.hx rfl (hb hby at_177) (XS.isub W681.here W681.hx rfl (hb hby at_178) rfl q9_)))) ?_
      show Go p e below s Z [] _ _ _ (T680.setTop (mkF m 179 #[.val (.int p0), .val (.int p1), .val (.int p2), .val (.int p3), .val (.int p4), .val (.int (1 : Int32)), .val (.int u0), .val (.int u1), .val (.int u2), .val (.int u3), .val (.ref ba), .val (.ref r), .val (.ref r)] [(.int ((1 : Int32) - (1 : Int32))), (.ref r)]))
      show Go p e below s Z [] _ _ _ (T680.setTop (mkF m 179 #[.val (.int p0), .val (.int p1), .val (.int p2), .val (.int p3), .val (.int p4), .val (.int (1 : Int32)), .val (.int u0), .val (.int u1), .val (.int u2), .val (.int u3), .val (.ref ba), .val (.ref r), .val (.ref r)] [(.int (0 : Int32)), (.ref r)]))
      refine W681.callVp (y := (⟨"java/lang/String", "charAt", "(I)C"⟩ : MethodName)) (z := (⟨"java/lang/String", "charAt", "(I)C"⟩ : MethodName)) (wd57 hw) (wd58 hw) (nf_sel rfl (wd60 hw)) (wd60 hw) (wd59 hw) (wd3 hw) (wd61 hw) (by decide) (E1.ext X9) (a := r) (c_at1_0 l Z a0 hw hEL h677 W681.old r ta k_ta _ _ _ u0 G1 fm SG1 hG SAD SHI SLO SFM rfm (E1.ext X9) (FV1.ext X9) (FC1.ext X9) (A1.ext X9) rfl rfl (StrChars.pair_says r_u0.1 r_u0.2) r_u0) all0 (by decide) (by decide) (k' := 6) (n' := 48) rfl rfl (by decide) (by decide) (by rw [hml]; rfl) (argsL := [(.int (0 : Int32))]) (rest := []) (lenOf pd_16 rfl) rfl rfl (Wt := 0) (Nat.le_of_eq rfl) (hb hby at_179) ?_
      intro T682 W683
      show Go p e below s Z [] _ _ _ (T682.setTop (mkF m 182 #[.val (.int p0), .val (.int p1), .val (.int p2), .val (.int p3), .val (.int p4), .val (.int (1 : Int32)), .val (.int u0), .val (.int u1), .val (.int u2), .val (.int u3), .val (.ref ba), .val (.ref r), .val (.ref r)] [(.int u0)]))
      refine Go.by (fun t9_ q9_ => XS.aload W683.here W683.hx rfl (hb hby at_182) rfl rfl (XS.iload W683.here W683.hx rfl (hb hby at_184) rfl (XS.iconst W683.here W683.hx rfl (hb hby at_186) (XS.isub W683.here W683.hx rfl (hb hby at_187) rfl q9_)))) ?_
      show Go p e below s Z [] _ _ _ (T682.setTop (mkF m 188 #[.val (.int p0), .val (.int p1), .val (.int p2), .val (.int p3), .val (.int p4), .val (.int (1 : Int32)), .val (.int u0), .val (.int u1), .val (.int u2), .val (.int u3), .val (.ref ba), .val (.ref r), .val (.ref r)] [(.int ((1 : Int32) - (1 : Int32))), (.ref ba), (.int u0)]))
      show Go p e below s Z [] _ _ _ (T682.setTop (mkF m 188 #[.val (.int p0), .val (.int p1), .val (.int p2), .val (.int p3), .val (.int p4), .val (.int (1 : Int32)), .val (.int u0), .val (.int u1), .val (.int u2), .val (.int u3), .val (.ref ba), .val (.ref r), .val (.ref r)] [(.int (0 : Int32)), (.ref ba), (.int u0)]))
      have X684 : Ext h664 h674 := (Ext.keep' E671 K1 (allS (Nat.le_of_eq g_r) all0))
      have X685 : Ext h664 h677 := (Ext.trans' X684 X9)
      refine W683.cald (V667_ba.ext X685) ⟨by decide, by decide⟩ (v := (.int u0)) rfl (hb hby at_188) ?_
      show Go p e below s Z [] _ _ _ (T682.setTop (mkF m 189 #[.val (.int p0), .val (.int p1), .val (.int p2), .val (.int p3), .val (.int p4), .val (.int (1 : Int32)), .val (.int u0), .val (.int u1), .val (.int u2), .val (.int u3), .val (.ref ba), .val (.ref r), .val (.ref r)] [(.int u0), (.int u0)]))
      refine Go.by (fun t9_ q9_ => XS.icmpNo W683.here W683.hx rfl (hb hby at_189) rfl (teq rfl).2 q9_) ?_
      show Go p e below s Z [] _ _ _ (T682.setTop (mkF m 192 #[.val (.int p0), .val (.int p1), .val (.int p2), .val (.int p3), .val (.int p4), .val (.int (1 : Int32)), .val (.int u0), .val (.int u1), .val (.int u2), .val (.int u3), .val (.ref ba), .val (.ref r), .val (.ref r)] []))
      refine Go.by (fun t9_ q9_ => XS.iconst W683.here W683.hx rfl (hb hby at_192) (XS.goto W683.here W683.hx rfl (pc0 := 193) (pc' := 197) rfl (hb hby at_193) (by decide) (by decide) q9_)) ?_
      show Go p e below s Z [] _ _ _ (T682.setTop (mkF m 197 #[.val (.int p0), .val (.int p1), .val (.int p2), .val (.int p3), .val (.int p4), .val (.int (1 : Int32)), .val (.int u0), .val (.int u1), .val (.int u2), .val (.int u3), .val (.ref ba), .val (.ref r), .val (.ref r)] [(.int (1 : Int32))]))
      exact W683.retN (z' := (1 : Int32)) (by decide) (by decide) hret (by simp) (hb hby at_197) rfl rfl
    · have hlat : ∀ c ∈ [u0], ¬ (255 : Int32) < c := by intro c hc h5; simp only [List.mem_cons, List.not_mem_nil, or_false] at hc; exact hbig (by subst hc; exact h5)
      refine W670.strV (cs := [u0]) (k_words hw) (wd2 hw) (wd4 hw) (wd5 hw) A_r F_value_r F_coder_r (V667_ba.ext E671) (SG1.ext W670.old) hG (q := 1) rfl rfl (by decide) (by decide) (by intro c hc; refine ⟨?_, hlat c hc⟩; simp only [List.mem_cons, List.not_mem_nil, or_false] at hc; subst hc; exact r_u0.1) z_r (List.mem_of_getElem? (i := 0) rfl) (by decide) (Wt := 1) (by decide) (k' := 3) (n' := 6) rfl rfl (by decide) (by decide) (by rw [hml]; rfl) (Nat.le_of_eq rfl) (hb hby at_127) ?_
      intro T686 h687 W688 K689 S_r
      show Go p e below s Z [] _ _ _ (T686.setTop (mkF m 130 #[.val (.int p0), .val (.int p1), .val (.int p2), .val (.int p3), .val (.int p4), .val (.int (1 : Int32)), .val (.int u0), .val (.int u1), .val (.int u2), .val (.int u3), .val (.ref ba), .unset, .unset] [(.ref r)]))
      obtain ⟨ta, k_ta, cd, N2, vs, s1, s2, s3, s4, s5, s6⟩ := id S_r
      obtain ⟨rfl, rfl, rfl⟩ : cd = 0 ∧ N2 = (1 : Int32) ∧ vs = _ := by rcases s5 with ⟨q1, q2, q3, -⟩ | ⟨-, -, -, c, hc, h5⟩; exact ⟨q1, q2, q3⟩; exact absurd h5 (hlat c hc)
      refine Go.by (fun t9_ q9_ => XS.astore W688.here W688.hx rfl (hb hby at_130) rfl rfl (l' := #[.val (.int p0), .val (.int p1), .val (.int p2), .val (.int p3), .val (.int p4), .val (.int (1 : Int32)), .val (.int u0), .val (.int u1), .val (.int u2), .val (.int u3), .val (.ref ba), .val (.ref r), .unset]) rfl (XS.aload W688.here W688.hx rfl (hb hby at_132) rfl rfl q9_)) ?_
      show Go p e below s Z [] _ _ _ (T686.setTop (mkF m 134 #[.val (.int p0), .val (.int p1), .val (.int p2), .val (.int p3), .val (.int p4), .val (.int (1 : Int32)), .val (.int u0), .val (.int u1), .val (.int u2), .val (.int u3), .val (.ref ba), .val (.ref r), .unset] [(.ref r)]))
      refine W688.callS (y := (⟨"com/example/admit/admit/model/AclEntry", "requirePrivilegeName", "(Ljava/lang/String;)Ljava/lang/String;"⟩ : MethodName)) (wd30 hw) (wd31 hw) (wd32 hw) (wd33 hw) (by decide) (c_rpn l Z a0 hw hEL h687 W688.old r ta k_ta _ _ (Str.exa S_r) s2 s4 (by decide)) all0 (by decide) (by decide) (k' := 5) (n' := 46) rfl rfl (by decide) (by decide) (by rw [hml]; rfl) (argsL := [(.ref r)]) (rest := []) (lenOf pd_15 rfl) rfl rfl (Wt := 0) (Nat.le_of_eq rfl) (hb hby at_134) ?_
      intro v_ T690 h692 W691 hq_
      obtain ⟨rfl, X9⟩ := hq_
      show Go p e below s Z [] _ _ _ (T690.setTop (mkF m 137 #[.val (.int p0), .val (.int p1), .val (.int p2), .val (.int p3), .val (.int p4), .val (.int (1 : Int32)), .val (.int u0), .val (.int u1), .val (.int u2), .val (.int u3), .val (.ref ba), .val (.ref r), .unset] [(.ref r)]))
      refine Go.by (fun t9_ q9_ => XS.astore W691.here W691.hx rfl (hb hby at_137) rfl rfl (l' := #[.val (.int p0), .val (.int p1), .val (.int p2), .val (.int p3), .val (.int p4), .val (.int (1 : Int32)), .val (.int u0), .val (.int u1), .val (.int u2), .val (.int u3), .val (.ref ba), .val (.ref r), .val (.ref r)]) rfl (XS.aload W691.here W691.hx rfl (hb hby at_139) rfl rfl (XS.aload W691.here W691.hx rfl (hb hby at_141) rfl rfl q9_))) ?_
      show Go p e below s Z [] _ _ _ (T690.setTop (mkF m 143 #[.val (.int p0), .val (.int p1), .val (.int p2), .val (.int p3), .val (.int p4), .val (.int (1 : Int32)), .val (.int u0), .val (.int u1), .val (.int u2), .val (.int u3), .val (.ref ba), .val (.ref r), .val (.ref r)] [(.ref r), (.ref r)]))
      refine Go.by (fun t9_ q9_ => acmpW W691 (g := (mkF m 143 #[.val (.int p0), .val (.int p1), .val (.int p2), .val (.int p3), .val (.int p4), .val (.int (1 : Int32)), .val (.int u0), .val (.int u1), .val (.int u2), .val (.int u3), .val (.ref ba), .val (.ref r), .val (.ref r)] [(.ref r), (.ref r)])) rfl rfl rfl (pc0 := 143) (pc' := 148) (same := true) rfl (hb hby at_143) rfl (decide_eq_true rfl) (by decide) (by decide) q9_) ?_
      show Go p e below s Z [] _ _ _ (T690.setTop (mkF m 148 #[.val (.int p0), .val (.int p1), .val (.int p2), .val (.int p3), .val (.int p4), .val (.int (1 : Int32)), .val (.int u0), .val (.int u1), .val (.int u2), .val (.int u3), .val (.ref ba), .val (.ref r), .val (.ref r)] []))
      refine Go.by (fun t9_ q9_ => XS.aload W691.here W691.hx rfl (hb hby at_148) rfl rfl q9_) ?_
      show Go p e below s Z [] _ _ _ (T690.setTop (mkF m 150 #[.val (.int p0), .val (.int p1), .val (.int p2), .val (.int p3), .val (.int p4), .val (.int (1 : Int32)), .val (.int u0), .val (.int u1), .val (.int u2), .val (.int u3), .val (.ref ba), .val (.ref r), .val (.ref r)] [(.ref r)]))
      refine W691.strLen (k_len hw) (wd2 hw) (wd47 hw) (wd48 hw) (wd50 hw) (wd49 hw) (S_r.ext X9) (by simp) (SG1.ext W691.old) hG (by decide) (Wt := 0) (by decide) (by rw [hml]; rfl) (Nat.le_of_eq rfl) (by decide) (by decide) (hb hby at_150) ?_
      intro T693 W694
      show Go p e below s Z [] _ _ _ (T693.setTop (mkF m 153 #[.val (.int p0), .val (.int p1), .val (.int p2), .val (.int p3), .val (.int p4), .val (.int (1 : Int32)), .val (.int u0), .val (.int u1), .val (.int u2), .val (.int u3), .val (.ref ba), .val (.ref r), .val (.ref r)] [(.int (1 : Int32))]))
      refine Go.by (fun t9_ q9_ => XS.iload W694.here W694.hx rfl (hb hby at_153) rfl q9_) ?_
      show Go p e below s Z [] _ _ _ (T693.setTop (mkF m 155 #[.val (.int p0), .val (.int p1), .val (.int p2), .val (.int p3), .val (.int p4), .val (.int (1 : Int32)), .val (.int u0), .val (.int u1), .val (.int u2), .val (.int u3), .val (.ref ba), .val (.ref r), .val (.ref r)] [(.int (1 : Int32)), (.int (1 : Int32))]))
      refine Go.by (fun t9_ q9_ => XS.icmpYes W694.here W694.hx rfl (pc0 := 155) (pc' := 160) rfl (hb hby at_155) rfl (teq rfl).1 (by decide) (by decide) q9_) ?_
      show Go p e below s Z [] _ _ _ (T693.setTop (mkF m 160 #[.val (.int p0), .val (.int p1), .val (.int p2), .val (.int p3), .val (.int p4), .val (.int (1 : Int32)), .val (.int u0), .val (.int u1), .val (.int u2), .val (.int u3), .val (.ref ba), .val (.ref r), .val (.ref r)] []))
      refine Go.by (fun t9_ q9_ => XS.aload W694.here W694.hx rfl (hb hby at_160) rfl rfl (XS.iconst W694.here W694.hx rfl (hb hby at_162) q9_)) ?_
      show Go p e below s Z [] _ _ _ (T693.setTop (mkF m 163 #[.val (.int p0), .val (.int p1), .val (.int p2), .val (.int p3), .val (.int p4), .val (.int (1 : Int32)), .val (.int u0), .val (.int u1), .val (.int u2), .val (.int u3), .val (.ref ba), .val (.ref r), .val (.ref r)] [(.int (0 : Int32)), (.ref r)]))
      refine W694.strCh (k_ch hw) (wd2 hw) (wd57 hw) (wd58 hw) (wd60 hw) (wd59 hw) (S_r.ext X9) hlat (by simp) (SG1.ext W694.old) hG (SFM.ext W694.old) rfm (i := 0) (by simp) rfl (by decide) (Wt := 0) (by decide) (by rw [hml]; rfl) (Nat.le_of_eq rfl) (by decide) (by decide) (hb hby at_163) ?_
      intro T695 W696
      show Go p e below s Z [] _ _ _ (T695.setTop (mkF m 166 #[.val (.int p0), .val (.int p1), .val (.int p2), .val (.int p3), .val (.int p4), .val (.int (1 : Int32)), .val (.int u0), .val (.int u1), .val (.int u2), .val (.int u3), .val (.ref ba), .val (.ref r), .val (.ref r)] [(.int u0)]))
      refine Go.by (fun t9_ q9_ => XS.iload W696.here W696.hx rfl (hb hby at_166) rfl q9_) ?_
      show Go p e below s Z [] _ _ _ (T695.setTop (mkF m 168 #[.val (.int p0), .val (.int p1), .val (.int p2), .val (.int p3), .val (.int p4), .val (.int (1 : Int32)), .val (.int u0), .val (.int u1), .val (.int u2), .val (.int u3), .val (.ref ba), .val (.ref r), .val (.ref r)] [(.int u0), (.int u0)]))
      refine Go.by (fun t9_ q9_ => XS.icmpYes W696.here W696.hx rfl (pc0 := 168) (pc' := 173) rfl (hb hby at_168) rfl (teq rfl).1 (by decide) (by decide) q9_) ?_
      show Go p e below s Z [] _ _ _ (T695.setTop (mkF m 173 #[.val (.int p0), .val (.int p1), .val (.int p2), .val (.int p3), .val (.int p4), .val (.int (1 : Int32)), .val (.int u0), .val (.int u1), .val (.int u2), .val (.int u3), .val (.ref ba), .val (.ref r), .val (.ref r)] []))
      refine Go.by (fun t9_ q9_ => XS.aload W696.here W696.hx rfl (hb hby at_173) rfl rfl (XS.iload W696.here W696.hx rfl (hb hby at_175) rfl (XS.iconst W696.here W696.hx rfl (hb hby at_177) (XS.isub W696.here W696.hx rfl (hb hby at_178) rfl q9_)))) ?_
      show Go p e below s Z [] _ _ _ (T695.setTop (mkF m 179 #[.val (.int p0), .val (.int p1), .val (.int p2), .val (.int p3), .val (.int p4), .val (.int (1 : Int32)), .val (.int u0), .val (.int u1), .val (.int u2), .val (.int u3), .val (.ref ba), .val (.ref r), .val (.ref r)] [(.int ((1 : Int32) - (1 : Int32))), (.ref r)]))
      show Go p e below s Z [] _ _ _ (T695.setTop (mkF m 179 #[.val (.int p0), .val (.int p1), .val (.int p2), .val (.int p3), .val (.int p4), .val (.int (1 : Int32)), .val (.int u0), .val (.int u1), .val (.int u2), .val (.int u3), .val (.ref ba), .val (.ref r), .val (.ref r)] [(.int (0 : Int32)), (.ref r)]))
      refine W696.strCh (k_ch hw) (wd2 hw) (wd57 hw) (wd58 hw) (wd60 hw) (wd59 hw) (S_r.ext X9) hlat (by simp) (SG1.ext W696.old) hG (SFM.ext W696.old) rfm (i := 0) (by simp) rfl (by decide) (Wt := 0) (by decide) (by rw [hml]; rfl) (Nat.le_of_eq rfl) (by decide) (by decide) (hb hby at_179) ?_
      intro T697 W698
      show Go p e below s Z [] _ _ _ (T697.setTop (mkF m 182 #[.val (.int p0), .val (.int p1), .val (.int p2), .val (.int p3), .val (.int p4), .val (.int (1 : Int32)), .val (.int u0), .val (.int u1), .val (.int u2), .val (.int u3), .val (.ref ba), .val (.ref r), .val (.ref r)] [(.int u0)]))
      refine Go.by (fun t9_ q9_ => XS.aload W698.here W698.hx rfl (hb hby at_182) rfl rfl (XS.iload W698.here W698.hx rfl (hb hby at_184) rfl (XS.iconst W698.here W698.hx rfl (hb hby at_186) (XS.isub W698.here W698.hx rfl (hb hby at_187) rfl q9_)))) ?_
      show Go p e below s Z [] _ _ _ (T697.setTop (mkF m 188 #[.val (.int p0), .val (.int p1), .val (.int p2), .val (.int p3), .val (.int p4), .val (.int (1 : Int32)), .val (.int u0), .val (.int u1), .val (.int u2), .val (.int u3), .val (.ref ba), .val (.ref r), .val (.ref r)] [(.int ((1 : Int32) - (1 : Int32))), (.ref ba), (.int u0)]))
      show Go p e below s Z [] _ _ _ (T697.setTop (mkF m 188 #[.val (.int p0), .val (.int p1), .val (.int p2), .val (.int p3), .val (.int p4), .val (.int (1 : Int32)), .val (.int u0), .val (.int u1), .val (.int u2), .val (.int u3), .val (.ref ba), .val (.ref r), .val (.ref r)] [(.int (0 : Int32)), (.ref ba), (.int u0)]))
      have X699 : Ext h664 h687 := (Ext.keep' E671 K689 (allS (Nat.le_of_eq g_r) all0))
      have X700 : Ext h664 h692 := (Ext.trans' X699 X9)
      refine W698.cald (V667_ba.ext X700) ⟨by decide, by decide⟩ (v := (.int u0)) rfl (hb hby at_188) ?_
      show Go p e below s Z [] _ _ _ (T697.setTop (mkF m 189 #[.val (.int p0), .val (.int p1), .val (.int p2), .val (.int p3), .val (.int p4), .val (.int (1 : Int32)), .val (.int u0), .val (.int u1), .val (.int u2), .val (.int u3), .val (.ref ba), .val (.ref r), .val (.ref r)] [(.int u0), (.int u0)]))
      refine Go.by (fun t9_ q9_ => XS.icmpNo W698.here W698.hx rfl (hb hby at_189) rfl (teq rfl).2 q9_) ?_
      show Go p e below s Z [] _ _ _ (T697.setTop (mkF m 192 #[.val (.int p0), .val (.int p1), .val (.int p2), .val (.int p3), .val (.int p4), .val (.int (1 : Int32)), .val (.int u0), .val (.int u1), .val (.int u2), .val (.int u3), .val (.ref ba), .val (.ref r), .val (.ref r)] []))
      refine Go.by (fun t9_ q9_ => XS.iconst W698.here W698.hx rfl (hb hby at_192) (XS.goto W698.here W698.hx rfl (pc0 := 193) (pc' := 197) rfl (hb hby at_193) (by decide) (by decide) q9_)) ?_
      show Go p e below s Z [] _ _ _ (T697.setTop (mkF m 197 #[.val (.int p0), .val (.int p1), .val (.int p2), .val (.int p3), .val (.int p4), .val (.int (1 : Int32)), .val (.int u0), .val (.int u1), .val (.int u2), .val (.int u3), .val (.ref ba), .val (.ref r), .val (.ref r)] [(.int (1 : Int32))]))
      exact W698.retN (z' := (1 : Int32)) (by decide) (by decide) hret (by simp) (hb hby at_197) rfl rfl
  · show Go p e below s Z [] _ _ _ (T0.setTop (mkF m 24 #[.val (.int p0), .val (.int p1), .val (.int p2), .val (.int p3), .val (.int p4), .val (.int (2 : Int32)), .val (.int u0), .val (.int u1), .val (.int u2), .val (.int u3), .unset, .unset, .unset] []))
    refine Go.by (fun t9_ q9_ => XS.iload W0.here W0.hx rfl (hb hby at_24) rfl (XS.iconst W0.here W0.hx rfl (hb hby at_26) q9_)) ?_
    show Go p e below s Z [] _ _ _ (T0.setTop (mkF m 27 #[.val (.int p0), .val (.int p1), .val (.int p2), .val (.int p3), .val (.int p4), .val (.int (2 : Int32)), .val (.int u0), .val (.int u1), .val (.int u2), .val (.int u3), .unset, .unset, .unset] [(.int (1 : Int32)), (.int (2 : Int32))]))
    refine Go.by (fun t9_ q9_ => XS.icmpYes W0.here W0.hx rfl (pc0 := 27) (pc' := 43) rfl (hb hby at_27) rfl (feq (by decide)).2 (by decide) (by decide) q9_) ?_
    show Go p e below s Z [] _ _ _ (T0.setTop (mkF m 43 #[.val (.int p0), .val (.int p1), .val (.int p2), .val (.int p3), .val (.int p4), .val (.int (2 : Int32)), .val (.int u0), .val (.int u1), .val (.int u2), .val (.int u3), .unset, .unset, .unset] []))
    refine Go.by (fun t9_ q9_ => XS.iload W0.here W0.hx rfl (hb hby at_43) rfl (XS.iconst W0.here W0.hx rfl (hb hby at_45) q9_)) ?_
    show Go p e below s Z [] _ _ _ (T0.setTop (mkF m 46 #[.val (.int p0), .val (.int p1), .val (.int p2), .val (.int p3), .val (.int p4), .val (.int (2 : Int32)), .val (.int u0), .val (.int u1), .val (.int u2), .val (.int u3), .unset, .unset, .unset] [(.int (2 : Int32)), (.int (2 : Int32))]))
    refine Go.by (fun t9_ q9_ => XS.icmpNo W0.here W0.hx rfl (hb hby at_46) rfl (teq rfl).2 q9_) ?_
    show Go p e below s Z [] _ _ _ (T0.setTop (mkF m 49 #[.val (.int p0), .val (.int p1), .val (.int p2), .val (.int p3), .val (.int p4), .val (.int (2 : Int32)), .val (.int u0), .val (.int u1), .val (.int u2), .val (.int u3), .unset, .unset, .unset] []))
    refine Go.by (fun t9_ q9_ => XS.iconst W0.here W0.hx rfl (hb hby at_49) q9_) ?_
    show Go p e below s Z [] _ _ _ (T0.setTop (mkF m 50 #[.val (.int p0), .val (.int p1), .val (.int p2), .val (.int p3), .val (.int p4), .val (.int (2 : Int32)), .val (.int u0), .val (.int u1), .val (.int u2), .val (.int u3), .unset, .unset, .unset] [(.int (2 : Int32))]))
    refine W0.newp (aty := .char) (wd0 hw) (hb hby at_50) (by decide) (cap := 2) (by decide) (by decide) (k' := 1) (n' := 2) rfl rfl (by decide) (by decide) (ad := "[C") rfl ?_
    intro T701 h702 ba k_ba W703 E704 g_ba z_ba A_ba V_ba
    have V1_ba : Arv Z h702 ba k_ba .char (2 : Int32) [(.int (0 : Int32)), (.int (0 : Int32))] (.int (0 : Int32)) := V_ba.pad (pad_rep [] (.int (0 : Int32)) 2)
    show Go p e below s Z [] _ _ _ (T701.setTop (mkF m 52 #[.val (.int p0), .val (.int p1), .val (.int p2), .val (.int p3), .val (.int p4), .val (.int (2 : Int32)), .val (.int u0), .val (.int u1), .val (.int u2), .val (.int u3), .unset, .unset, .unset] [(.ref ba)]))
    refine Go.by (fun t9_ q9_ => XS.dup W703.here W703.hx rfl (hb hby at_52) rfl rfl (XS.iconst W703.here W703.hx rfl (hb hby at_53) (XS.iload W703.here W703.hx rfl (hb hby at_54) rfl q9_))) ?_
    show Go p e below s Z [] _ _ _ (T701.setTop (mkF m 56 #[.val (.int p0), .val (.int p1), .val (.int p2), .val (.int p3), .val (.int p4), .val (.int (2 : Int32)), .val (.int u0), .val (.int u1), .val (.int u2), .val (.int u3), .unset, .unset, .unset] [(.int u0), (.int (0 : Int32)), (.ref ba), (.ref ba)]))
    refine W703.cast_ V1_ba ⟨by decide, by decide⟩ (i := 0) rfl (by simp) (v' := u0) (nar_id r_u0) z_ba (List.mem_of_getElem? (i := 0) rfl) (hb hby at_56) ?_
    intro T705 h706 W707 Wr708 V709_ba'
    have V709_ba : Arv Z h706 ba k_ba .char (2 : Int32) [(.int u0), (.int (0 : Int32))] (.int (0 : Int32)) := V709_ba'
    show Go p e below s Z [] _ _ _ (T705.setTop (mkF m 57 #[.val (.int p0), .val (.int p1), .val (.int p2), .val (.int p3), .val (.int p4), .val (.int (2 : Int32)), .val (.int u0), .val (.int u1), .val (.int u2), .val (.int u3), .unset, .unset, .unset] [(.ref ba)]))
    refine Go.by (fun t9_ q9_ => XS.dup W707.here W707.hx rfl (hb hby at_57) rfl rfl (XS.iconst W707.here W707.hx rfl (hb hby at_58) (XS.iload W707.here W707.hx rfl (hb hby at_59) rfl q9_))) ?_
    show Go p e below s Z [] _ _ _ (T705.setTop (mkF m 61 #[.val (.int p0), .val (.int p1), .val (.int p2), .val (.int p3), .val (.int p4), .val (.int (2 : Int32)), .val (.int u0), .val (.int u1), .val (.int u2), .val (.int u3), .unset, .unset, .unset] [(.int u1), (.int (1 : Int32)), (.ref ba), (.ref ba)]))
    refine W707.cast_ V709_ba ⟨by decide, by decide⟩ (i := 1) rfl (by simp) (v' := u1) (nar_id r_u1) z_ba (List.mem_of_getElem? (i := 0) rfl) (hb hby at_61) ?_
    intro T710 h711 W712 Wr713 V714_ba'
    have V714_ba : Arv Z h711 ba k_ba .char (2 : Int32) [(.int u0), (.int u1)] (.int (0 : Int32)) := V714_ba'
    show Go p e below s Z [] _ _ _ (T710.setTop (mkF m 62 #[.val (.int p0), .val (.int p1), .val (.int p2), .val (.int p3), .val (.int p4), .val (.int (2 : Int32)), .val (.int u0), .val (.int u1), .val (.int u2), .val (.int u3), .unset, .unset, .unset] [(.ref ba)]))
    refine Go.by (fun t9_ q9_ => XS.astore W712.here W712.hx rfl (hb hby at_62) rfl rfl (l' := #[.val (.int p0), .val (.int p1), .val (.int p2), .val (.int p3), .val (.int p4), .val (.int (2 : Int32)), .val (.int u0), .val (.int u1), .val (.int u2), .val (.int u3), .val (.ref ba), .unset, .unset]) rfl (XS.goto W712.here W712.hx rfl (pc0 := 64) (pc' := 121) rfl (hb hby at_64) (by decide) (by decide) q9_)) ?_
    show Go p e below s Z [] _ _ _ (T710.setTop (mkF m 121 #[.val (.int p0), .val (.int p1), .val (.int p2), .val (.int p3), .val (.int p4), .val (.int (2 : Int32)), .val (.int u0), .val (.int u1), .val (.int u2), .val (.int u3), .val (.ref ba), .unset, .unset] []))
    refine W712.new (wd1 hw) (wd2 hw) (wd3 hw) (hb hby at_121) (k' := 2) (n' := 6) rfl rfl (by decide) (by decide) ?_
    intro T715 h716 r W717 E718 g_r z_r A_r D_r
    have F_coder_r : Fld Z h716 r "java/lang/String" "coder" "B" (.int (0 : Int32)) := D_r (Or.inr (wd27 hw)) (ty := .byte) (by decide)
    have F_value_r : Fld Z h716 r "java/lang/String" "value" "[B" .null := D_r (Or.inr (wd29 hw)) (ty := (.array .byte)) (by decide)
    show Go p e below s Z [] _ _ _ (T715.setTop (mkF m 124 #[.val (.int p0), .val (.int p1), .val (.int p2), .val (.int p3), .val (.int p4), .val (.int (2 : Int32)), .val (.int u0), .val (.int u1), .val (.int u2), .val (.int u3), .val (.ref ba), .unset, .unset] [(.ref r)]))
    refine Go.by (fun t9_ q9_ => XS.dup W717.here W717.hx rfl (hb hby at_124) rfl rfl (XS.aload W717.here W717.hx rfl (hb hby at_125) rfl rfl q9_)) ?_
    show Go p e below s Z [] _ _ _ (T715.setTop (mkF m 127 #[.val (.int p0), .val (.int p1), .val (.int p2), .val (.int p3), .val (.int p4), .val (.int (2 : Int32)), .val (.int u0), .val (.int u1), .val (.int u2), .val (.int u3), .val (.ref ba), .unset, .unset] [(.ref ba), (.ref r), (.ref r)]))
    by_cases hbig : (255 : Int32) < u0 ∨ (255 : Int32) < u1
    · refine W717.callI (y := (⟨"java/lang/String", "<init>", "([C)V"⟩ : MethodName)) rfl (wd4 hw) (wd5 hw) (wd3 hw) (wd6 hw) (by decide) (a := r) (c_s16_2 l Z a0 hw hEL h716 W717.old r ba k_ba u0 u1 G1 A_r F_value_r F_coder_r z_r SAD SHI SLO SG1 hG (V714_ba.ext E718) r_u0 r_u1 hbig) (allS (List.mem_of_getElem? (i := 0) rfl) all0) (by decide) (by decide) (k' := 4) (n' := 12) rfl rfl (by decide) (by decide) (by rw [hml]; rfl) (argsL := [(.ref ba)]) (rest := [(.ref r)]) (lenOf pd_14 rfl) rfl rfl (Wt := 1) (Nat.le_of_eq rfl) (hb hby at_127) ?_
      intro v_ T719 h721 W720 hq_
      obtain ⟨rfl, K1, ta, k_ta, E1, FV1, FC1, A1⟩ := hq_
      have S_r : Str Z h721 r [u0, u1] := ⟨ta, k_ta, 1, _, _, E1, FV1, FC1, A1, Or.inr ⟨rfl, rfl, rfl, by simpa using hbig⟩, by simp only [List.mem_cons, List.not_mem_nil, or_false, forall_eq_or_imp, forall_eq]; exact ⟨r_u0, r_u1⟩⟩
      show Go p e below s Z [] _ _ _ (T719.setTop (mkF m 130 #[.val (.int p0), .val (.int p1), .val (.int p2), .val (.int p3), .val (.int p4), .val (.int (2 : Int32)), .val (.int u0), .val (.int u1), .val (.int u2), .val (.int u3), .val (.ref ba), .unset, .unset] [(.ref r)]))
      refine Go.by (fun t9_ q9_ => XS.astore W720.here W720.hx rfl (hb hby at_130) rfl rfl (l' := #[.val (.int p0), .val (.int p1), .val (.int p2), .val (.int p3), .val (.int p4), .val (.int (2 : Int32)), .val (.int u0), .val (.int u1), .val (.int u2), .val (.int u3), .val (.ref ba), .val (.ref r), .unset]) rfl (XS.aload W720.here W720.hx rfl (hb hby at_132) rfl rfl q9_)) ?_
      show Go p e below s Z [] _ _ _ (T719.setTop (mkF m 134 #[.val (.int p0), .val (.int p1), .val (.int p2), .val (.int p3), .val (.int p4), .val (.int (2 : Int32)), .val (.int u0), .val (.int u1), .val (.int u2), .val (.int u3), .val (.ref ba), .val (.ref r), .unset] [(.ref r)]))
      refine W720.callS (y := (⟨"com/example/admit/admit/model/AclEntry", "requirePrivilegeName", "(Ljava/lang/String;)Ljava/lang/String;"⟩ : MethodName)) (wd30 hw) (wd31 hw) (wd32 hw) (wd33 hw) (by decide) (c_rpn l Z a0 hw hEL h721 W720.old r ta k_ta _ _ E1 FV1 A1 (by decide)) all0 (by decide) (by decide) (k' := 6) (n' := 52) rfl rfl (by decide) (by decide) (by rw [hml]; rfl) (argsL := [(.ref r)]) (rest := []) (lenOf pd_15 rfl) rfl rfl (Wt := 0) (Nat.le_of_eq rfl) (hb hby at_134) ?_
      intro v_ T722 h724 W723 hq_
      obtain ⟨rfl, X9⟩ := hq_
      show Go p e below s Z [] _ _ _ (T722.setTop (mkF m 137 #[.val (.int p0), .val (.int p1), .val (.int p2), .val (.int p3), .val (.int p4), .val (.int (2 : Int32)), .val (.int u0), .val (.int u1), .val (.int u2), .val (.int u3), .val (.ref ba), .val (.ref r), .unset] [(.ref r)]))
      refine Go.by (fun t9_ q9_ => XS.astore W723.here W723.hx rfl (hb hby at_137) rfl rfl (l' := #[.val (.int p0), .val (.int p1), .val (.int p2), .val (.int p3), .val (.int p4), .val (.int (2 : Int32)), .val (.int u0), .val (.int u1), .val (.int u2), .val (.int u3), .val (.ref ba), .val (.ref r), .val (.ref r)]) rfl (XS.aload W723.here W723.hx rfl (hb hby at_139) rfl rfl (XS.aload W723.here W723.hx rfl (hb hby at_141) rfl rfl q9_))) ?_
      show Go p e below s Z [] _ _ _ (T722.setTop (mkF m 143 #[.val (.int p0), .val (.int p1), .val (.int p2), .val (.int p3), .val (.int p4), .val (.int (2 : Int32)), .val (.int u0), .val (.int u1), .val (.int u2), .val (.int u3), .val (.ref ba), .val (.ref r), .val (.ref r)] [(.ref r), (.ref r)]))
      refine Go.by (fun t9_ q9_ => acmpW W723 (g := (mkF m 143 #[.val (.int p0), .val (.int p1), .val (.int p2), .val (.int p3), .val (.int p4), .val (.int (2 : Int32)), .val (.int u0), .val (.int u1), .val (.int u2), .val (.int u3), .val (.ref ba), .val (.ref r), .val (.ref r)] [(.ref r), (.ref r)])) rfl rfl rfl (pc0 := 143) (pc' := 148) (same := true) rfl (hb hby at_143) rfl (decide_eq_true rfl) (by decide) (by decide) q9_) ?_
      show Go p e below s Z [] _ _ _ (T722.setTop (mkF m 148 #[.val (.int p0), .val (.int p1), .val (.int p2), .val (.int p3), .val (.int p4), .val (.int (2 : Int32)), .val (.int u0), .val (.int u1), .val (.int u2), .val (.int u3), .val (.ref ba), .val (.ref r), .val (.ref r)] []))
      refine Go.by (fun t9_ q9_ => XS.aload W723.here W723.hx rfl (hb hby at_148) rfl rfl q9_) ?_
      show Go p e below s Z [] _ _ _ (T722.setTop (mkF m 150 #[.val (.int p0), .val (.int p1), .val (.int p2), .val (.int p3), .val (.int p4), .val (.int (2 : Int32)), .val (.int u0), .val (.int u1), .val (.int u2), .val (.int u3), .val (.ref ba), .val (.ref r), .val (.ref r)] [(.ref r)]))
      refine W723.strLen (k_len hw) (wd2 hw) (wd47 hw) (wd48 hw) (wd50 hw) (wd49 hw) (S_r.ext X9) (by simp) (SG1.ext W723.old) hG (by decide) (Wt := 0) (by decide) (by rw [hml]; rfl) (Nat.le_of_eq rfl) (by decide) (by decide) (hb hby at_150) ?_
      intro T725 W726
      show Go p e below s Z [] _ _ _ (T725.setTop (mkF m 153 #[.val (.int p0), .val (.int p1), .val (.int p2), .val (.int p3), .val (.int p4), .val (.int (2 : Int32)), .val (.int u0), .val (.int u1), .val (.int u2), .val (.int u3), .val (.ref ba), .val (.ref r), .val (.ref r)] [(.int (2 : Int32))]))
      refine Go.by (fun t9_ q9_ => XS.iload W726.here W726.hx rfl (hb hby at_153) rfl q9_) ?_
      show Go p e below s Z [] _ _ _ (T725.setTop (mkF m 155 #[.val (.int p0), .val (.int p1), .val (.int p2), .val (.int p3), .val (.int p4), .val (.int (2 : Int32)), .val (.int u0), .val (.int u1), .val (.int u2), .val (.int u3), .val (.ref ba), .val (.ref r), .val (.ref r)] [(.int (2 : Int32)), (.int (2 : Int32))]))
      refine Go.by (fun t9_ q9_ => XS.icmpYes W726.here W726.hx rfl (pc0 := 155) (pc' := 160) rfl (hb hby at_155) rfl (teq rfl).1 (by decide) (by decide) q9_) ?_
      show Go p e below s Z [] _ _ _ (T725.setTop (mkF m 160 #[.val (.int p0), .val (.int p1), .val (.int p2), .val (.int p3), .val (.int p4), .val (.int (2 : Int32)), .val (.int u0), .val (.int u1), .val (.int u2), .val (.int u3), .val (.ref ba), .val (.ref r), .val (.ref r)] []))
      refine Go.by (fun t9_ q9_ => XS.aload W726.here W726.hx rfl (hb hby at_160) rfl rfl (XS.iconst W726.here W726.hx rfl (hb hby at_162) q9_)) ?_
      show Go p e below s Z [] _ _ _ (T725.setTop (mkF m 163 #[.val (.int p0), .val (.int p1), .val (.int p2), .val (.int p3), .val (.int p4), .val (.int (2 : Int32)), .val (.int u0), .val (.int u1), .val (.int u2), .val (.int u3), .val (.ref ba), .val (.ref r), .val (.ref r)] [(.int (0 : Int32)), (.ref r)]))
      refine W726.callVp (y := (⟨"java/lang/String", "charAt", "(I)C"⟩ : MethodName)) (z := (⟨"java/lang/String", "charAt", "(I)C"⟩ : MethodName)) (wd57 hw) (wd58 hw) (nf_sel rfl (wd60 hw)) (wd60 hw) (wd59 hw) (wd3 hw) (wd61 hw) (by decide) (E1.ext X9) (a := r) (c_at2_0 l Z a0 hw hEL h724 W726.old r ta k_ta _ _ _ u0 G1 fm SG1 hG SAD SHI SLO SFM rfm (E1.ext X9) (FV1.ext X9) (FC1.ext X9) (A1.ext X9) rfl rfl (StrChars.pair_says r_u0.1 r_u0.2) r_u0) all0 (by decide) (by decide) (k' := 6) (n' := 52) rfl rfl (by decide) (by decide) (by rw [hml]; rfl) (argsL := [(.int (0 : Int32))]) (rest := []) (lenOf pd_16 rfl) rfl rfl (Wt := 0) (Nat.le_of_eq rfl) (hb hby at_163) ?_
      intro T727 W728
      show Go p e below s Z [] _ _ _ (T727.setTop (mkF m 166 #[.val (.int p0), .val (.int p1), .val (.int p2), .val (.int p3), .val (.int p4), .val (.int (2 : Int32)), .val (.int u0), .val (.int u1), .val (.int u2), .val (.int u3), .val (.ref ba), .val (.ref r), .val (.ref r)] [(.int u0)]))
      refine Go.by (fun t9_ q9_ => XS.iload W728.here W728.hx rfl (hb hby at_166) rfl q9_) ?_
      show Go p e below s Z [] _ _ _ (T727.setTop (mkF m 168 #[.val (.int p0), .val (.int p1), .val (.int p2), .val (.int p3), .val (.int p4), .val (.int (2 : Int32)), .val (.int u0), .val (.int u1), .val (.int u2), .val (.int u3), .val (.ref ba), .val (.ref r), .val (.ref r)] [(.int u0), (.int u0)]))
      refine Go.by (fun t9_ q9_ => XS.icmpYes W728.here W728.hx rfl (pc0 := 168) (pc' := 173) rfl (hb hby at_168) rfl (teq rfl).1 (by decide) (by decide) q9_) ?_
      show Go p e below s Z [] _ _ _ (T727.setTop (mkF m 173 #[.val (.int p0), .val (.int p1), .val (.int p2), .val (.int p3), .val (.int p4), .val (.int (2 : Int32)), .val (.int u0), .val (.int u1), .val (.int u2), .val (.int u3), .val (.ref ba), .val (.ref r), .val (.ref r)] []))
      refine Go.by (fun t9_ q9_ => XS.aload W728.here W728.hx rfl (hb hby at_173) rfl rfl (XS.iload W728.here W728.hx rfl (hb hby at_175) rfl (XS.iconst W728.here W728.hx rfl (hb hby at_177) (XS.isub W728.here W728.hx rfl (hb hby at_178) rfl q9_)))) ?_
      show Go p e below s Z [] _ _ _ (T727.setTop (mkF m 179 #[.val (.int p0), .val (.int p1), .val (.int p2), .val (.int p3), .val (.int p4), .val (.int (2 : Int32)), .val (.int u0), .val (.int u1), .val (.int u2), .val (.int u3), .val (.ref ba), .val (.ref r), .val (.ref r)] [(.int ((2 : Int32) - (1 : Int32))), (.ref r)]))
      show Go p e below s Z [] _ _ _ (T727.setTop (mkF m 179 #[.val (.int p0), .val (.int p1), .val (.int p2), .val (.int p3), .val (.int p4), .val (.int (2 : Int32)), .val (.int u0), .val (.int u1), .val (.int u2), .val (.int u3), .val (.ref ba), .val (.ref r), .val (.ref r)] [(.int (1 : Int32)), (.ref r)]))
      refine W728.callVp (y := (⟨"java/lang/String", "charAt", "(I)C"⟩ : MethodName)) (z := (⟨"java/lang/String", "charAt", "(I)C"⟩ : MethodName)) (wd57 hw) (wd58 hw) (nf_sel rfl (wd60 hw)) (wd60 hw) (wd59 hw) (wd3 hw) (wd61 hw) (by decide) (E1.ext X9) (a := r) (c_at2_1 l Z a0 hw hEL h724 W728.old r ta k_ta _ _ _ u1 G1 fm SG1 hG SAD SHI SLO SFM rfm (E1.ext X9) (FV1.ext X9) (FC1.ext X9) (A1.ext X9) rfl rfl (StrChars.pair_says r_u1.1 r_u1.2) r_u1) all0 (by decide) (by decide) (k' := 6) (n' := 52) rfl rfl (by decide) (by decide) (by rw [hml]; rfl) (argsL := [(.int (1 : Int32))]) (rest := []) (lenOf pd_16 rfl) rfl rfl (Wt := 0) (Nat.le_of_eq rfl) (hb hby at_179) ?_
      intro T729 W730
      show Go p e below s Z [] _ _ _ (T729.setTop (mkF m 182 #[.val (.int p0), .val (.int p1), .val (.int p2), .val (.int p3), .val (.int p4), .val (.int (2 : Int32)), .val (.int u0), .val (.int u1), .val (.int u2), .val (.int u3), .val (.ref ba), .val (.ref r), .val (.ref r)] [(.int u1)]))
      refine Go.by (fun t9_ q9_ => XS.aload W730.here W730.hx rfl (hb hby at_182) rfl rfl (XS.iload W730.here W730.hx rfl (hb hby at_184) rfl (XS.iconst W730.here W730.hx rfl (hb hby at_186) (XS.isub W730.here W730.hx rfl (hb hby at_187) rfl q9_)))) ?_
      show Go p e below s Z [] _ _ _ (T729.setTop (mkF m 188 #[.val (.int p0), .val (.int p1), .val (.int p2), .val (.int p3), .val (.int p4), .val (.int (2 : Int32)), .val (.int u0), .val (.int u1), .val (.int u2), .val (.int u3), .val (.ref ba), .val (.ref r), .val (.ref r)] [(.int ((2 : Int32) - (1 : Int32))), (.ref ba), (.int u1)]))
      show Go p e below s Z [] _ _ _ (T729.setTop (mkF m 188 #[.val (.int p0), .val (.int p1), .val (.int p2), .val (.int p3), .val (.int p4), .val (.int (2 : Int32)), .val (.int u0), .val (.int u1), .val (.int u2), .val (.int u3), .val (.ref ba), .val (.ref r), .val (.ref r)] [(.int (1 : Int32)), (.ref ba), (.int u1)]))
      have X731 : Ext h711 h721 := (Ext.keep' E718 K1 (allS (Nat.le_of_eq g_r) all0))
      have X732 : Ext h711 h724 := (Ext.trans' X731 X9)
      refine W730.cald (V714_ba.ext X732) ⟨by decide, by decide⟩ (v := (.int u1)) rfl (hb hby at_188) ?_
      show Go p e below s Z [] _ _ _ (T729.setTop (mkF m 189 #[.val (.int p0), .val (.int p1), .val (.int p2), .val (.int p3), .val (.int p4), .val (.int (2 : Int32)), .val (.int u0), .val (.int u1), .val (.int u2), .val (.int u3), .val (.ref ba), .val (.ref r), .val (.ref r)] [(.int u1), (.int u1)]))
      refine Go.by (fun t9_ q9_ => XS.icmpNo W730.here W730.hx rfl (hb hby at_189) rfl (teq rfl).2 q9_) ?_
      show Go p e below s Z [] _ _ _ (T729.setTop (mkF m 192 #[.val (.int p0), .val (.int p1), .val (.int p2), .val (.int p3), .val (.int p4), .val (.int (2 : Int32)), .val (.int u0), .val (.int u1), .val (.int u2), .val (.int u3), .val (.ref ba), .val (.ref r), .val (.ref r)] []))
      refine Go.by (fun t9_ q9_ => XS.iconst W730.here W730.hx rfl (hb hby at_192) (XS.goto W730.here W730.hx rfl (pc0 := 193) (pc' := 197) rfl (hb hby at_193) (by decide) (by decide) q9_)) ?_
      show Go p e below s Z [] _ _ _ (T729.setTop (mkF m 197 #[.val (.int p0), .val (.int p1), .val (.int p2), .val (.int p3), .val (.int p4), .val (.int (2 : Int32)), .val (.int u0), .val (.int u1), .val (.int u2), .val (.int u3), .val (.ref ba), .val (.ref r), .val (.ref r)] [(.int (1 : Int32))]))
      exact W730.retN (z' := (1 : Int32)) (by decide) (by decide) hret (by simp) (hb hby at_197) rfl rfl
    · have hlat : ∀ c ∈ [u0, u1], ¬ (255 : Int32) < c := by intro c hc h5; simp only [List.mem_cons, List.not_mem_nil, or_false] at hc; exact hbig (by rcases hc with rfl | rfl <;> simp [h5])
      refine W717.strV (cs := [u0, u1]) (k_words hw) (wd2 hw) (wd4 hw) (wd5 hw) A_r F_value_r F_coder_r (V714_ba.ext E718) (SG1.ext W717.old) hG (q := 2) rfl rfl (by decide) (by decide) (by intro c hc; refine ⟨?_, hlat c hc⟩; simp only [List.mem_cons, List.not_mem_nil, or_false] at hc; rcases hc with rfl | rfl; exact r_u0.1; exact r_u1.1) z_r (List.mem_of_getElem? (i := 0) rfl) (by decide) (Wt := 1) (by decide) (k' := 3) (n' := 8) rfl rfl (by decide) (by decide) (by rw [hml]; rfl) (Nat.le_of_eq rfl) (hb hby at_127) ?_
      intro T733 h734 W735 K736 S_r
      show Go p e below s Z [] _ _ _ (T733.setTop (mkF m 130 #[.val (.int p0), .val (.int p1), .val (.int p2), .val (.int p3), .val (.int p4), .val (.int (2 : Int32)), .val (.int u0), .val (.int u1), .val (.int u2), .val (.int u3), .val (.ref ba), .unset, .unset] [(.ref r)]))
      obtain ⟨ta, k_ta, cd, N2, vs, s1, s2, s3, s4, s5, s6⟩ := id S_r
      obtain ⟨rfl, rfl, rfl⟩ : cd = 0 ∧ N2 = (2 : Int32) ∧ vs = _ := by rcases s5 with ⟨q1, q2, q3, -⟩ | ⟨-, -, -, c, hc, h5⟩; exact ⟨q1, q2, q3⟩; exact absurd h5 (hlat c hc)
      refine Go.by (fun t9_ q9_ => XS.astore W735.here W735.hx rfl (hb hby at_130) rfl rfl (l' := #[.val (.int p0), .val (.int p1), .val (.int p2), .val (.int p3), .val (.int p4), .val (.int (2 : Int32)), .val (.int u0), .val (.int u1), .val (.int u2), .val (.int u3), .val (.ref ba), .val (.ref r), .unset]) rfl (XS.aload W735.here W735.hx rfl (hb hby at_132) rfl rfl q9_)) ?_
      show Go p e below s Z [] _ _ _ (T733.setTop (mkF m 134 #[.val (.int p0), .val (.int p1), .val (.int p2), .val (.int p3), .val (.int p4), .val (.int (2 : Int32)), .val (.int u0), .val (.int u1), .val (.int u2), .val (.int u3), .val (.ref ba), .val (.ref r), .unset] [(.ref r)]))
      refine W735.callS (y := (⟨"com/example/admit/admit/model/AclEntry", "requirePrivilegeName", "(Ljava/lang/String;)Ljava/lang/String;"⟩ : MethodName)) (wd30 hw) (wd31 hw) (wd32 hw) (wd33 hw) (by decide) (c_rpn l Z a0 hw hEL h734 W735.old r ta k_ta _ _ (Str.exa S_r) s2 s4 (by decide)) all0 (by decide) (by decide) (k' := 5) (n' := 48) rfl rfl (by decide) (by decide) (by rw [hml]; rfl) (argsL := [(.ref r)]) (rest := []) (lenOf pd_15 rfl) rfl rfl (Wt := 0) (Nat.le_of_eq rfl) (hb hby at_134) ?_
      intro v_ T737 h739 W738 hq_
      obtain ⟨rfl, X9⟩ := hq_
      show Go p e below s Z [] _ _ _ (T737.setTop (mkF m 137 #[.val (.int p0), .val (.int p1), .val (.int p2), .val (.int p3), .val (.int p4), .val (.int (2 : Int32)), .val (.int u0), .val (.int u1), .val (.int u2), .val (.int u3), .val (.ref ba), .val (.ref r), .unset] [(.ref r)]))
      refine Go.by (fun t9_ q9_ => XS.astore W738.here W738.hx rfl (hb hby at_137) rfl rfl (l' := #[.val (.int p0), .val (.int p1), .val (.int p2), .val (.int p3), .val (.int p4), .val (.int (2 : Int32)), .val (.int u0), .val (.int u1), .val (.int u2), .val (.int u3), .val (.ref ba), .val (.ref r), .val (.ref r)]) rfl (XS.aload W738.here W738.hx rfl (hb hby at_139) rfl rfl (XS.aload W738.here W738.hx rfl (hb hby at_141) rfl rfl q9_))) ?_
      show Go p e below s Z [] _ _ _ (T737.setTop (mkF m 143 #[.val (.int p0), .val (.int p1), .val (.int p2), .val (.int p3), .val (.int p4), .val (.int (2 : Int32)), .val (.int u0), .val (.int u1), .val (.int u2), .val (.int u3), .val (.ref ba), .val (.ref r), .val (.ref r)] [(.ref r), (.ref r)]))
      refine Go.by (fun t9_ q9_ => acmpW W738 (g := (mkF m 143 #[.val (.int p0), .val (.int p1), .val (.int p2), .val (.int p3), .val (.int p4), .val (.int (2 : Int32)), .val (.int u0), .val (.int u1), .val (.int u2), .val (.int u3), .val (.ref ba), .val (.ref r), .val (.ref r)] [(.ref r), (.ref r)])) rfl rfl rfl (pc0 := 143) (pc' := 148) (same := true) rfl (hb hby at_143) rfl (decide_eq_true rfl) (by decide) (by decide) q9_) ?_
      show Go p e below s Z [] _ _ _ (T737.setTop (mkF m 148 #[.val (.int p0), .val (.int p1), .val (.int p2), .val (.int p3), .val (.int p4), .val (.int (2 : Int32)), .val (.int u0), .val (.int u1), .val (.int u2), .val (.int u3), .val (.ref ba), .val (.ref r), .val (.ref r)] []))
      refine Go.by (fun t9_ q9_ => XS.aload W738.here W738.hx rfl (hb hby at_148) rfl rfl q9_) ?_
      show Go p e below s Z [] _ _ _ (T737.setTop (mkF m 150 #[.val (.int p0), .val (.int p1), .val (.int p2), .val (.int p3), .val (.int p4), .val (.int (2 : Int32)), .val (.int u0), .val (.int u1), .val (.int u2), .val (.int u3), .val (.ref ba), .val (.ref r), .val (.ref r)] [(.ref r)]))
      refine W738.strLen (k_len hw) (wd2 hw) (wd47 hw) (wd48 hw) (wd50 hw) (wd49 hw) (S_r.ext X9) (by simp) (SG1.ext W738.old) hG (by decide) (Wt := 0) (by decide) (by rw [hml]; rfl) (Nat.le_of_eq rfl) (by decide) (by decide) (hb hby at_150) ?_
      intro T740 W741
      show Go p e below s Z [] _ _ _ (T740.setTop (mkF m 153 #[.val (.int p0), .val (.int p1), .val (.int p2), .val (.int p3), .val (.int p4), .val (.int (2 : Int32)), .val (.int u0), .val (.int u1), .val (.int u2), .val (.int u3), .val (.ref ba), .val (.ref r), .val (.ref r)] [(.int (2 : Int32))]))
      refine Go.by (fun t9_ q9_ => XS.iload W741.here W741.hx rfl (hb hby at_153) rfl q9_) ?_
      show Go p e below s Z [] _ _ _ (T740.setTop (mkF m 155 #[.val (.int p0), .val (.int p1), .val (.int p2), .val (.int p3), .val (.int p4), .val (.int (2 : Int32)), .val (.int u0), .val (.int u1), .val (.int u2), .val (.int u3), .val (.ref ba), .val (.ref r), .val (.ref r)] [(.int (2 : Int32)), (.int (2 : Int32))]))
      refine Go.by (fun t9_ q9_ => XS.icmpYes W741.here W741.hx rfl (pc0 := 155) (pc' := 160) rfl (hb hby at_155) rfl (teq rfl).1 (by decide) (by decide) q9_) ?_
      show Go p e below s Z [] _ _ _ (T740.setTop (mkF m 160 #[.val (.int p0), .val (.int p1), .val (.int p2), .val (.int p3), .val (.int p4), .val (.int (2 : Int32)), .val (.int u0), .val (.int u1), .val (.int u2), .val (.int u3), .val (.ref ba), .val (.ref r), .val (.ref r)] []))
      refine Go.by (fun t9_ q9_ => XS.aload W741.here W741.hx rfl (hb hby at_160) rfl rfl (XS.iconst W741.here W741.hx rfl (hb hby at_162) q9_)) ?_
      show Go p e below s Z [] _ _ _ (T740.setTop (mkF m 163 #[.val (.int p0), .val (.int p1), .val (.int p2), .val (.int p3), .val (.int p4), .val (.int (2 : Int32)), .val (.int u0), .val (.int u1), .val (.int u2), .val (.int u3), .val (.ref ba), .val (.ref r), .val (.ref r)] [(.int (0 : Int32)), (.ref r)]))
      refine W741.strCh (k_ch hw) (wd2 hw) (wd57 hw) (wd58 hw) (wd60 hw) (wd59 hw) (S_r.ext X9) hlat (by simp) (SG1.ext W741.old) hG (SFM.ext W741.old) rfm (i := 0) (by simp) rfl (by decide) (Wt := 0) (by decide) (by rw [hml]; rfl) (Nat.le_of_eq rfl) (by decide) (by decide) (hb hby at_163) ?_
      intro T742 W743
      show Go p e below s Z [] _ _ _ (T742.setTop (mkF m 166 #[.val (.int p0), .val (.int p1), .val (.int p2), .val (.int p3), .val (.int p4), .val (.int (2 : Int32)), .val (.int u0), .val (.int u1), .val (.int u2), .val (.int u3), .val (.ref ba), .val (.ref r), .val (.ref r)] [(.int u0)]))
      refine Go.by (fun t9_ q9_ => XS.iload W743.here W743.hx rfl (hb hby at_166) rfl q9_) ?_
      show Go p e below s Z [] _ _ _ (T742.setTop (mkF m 168 #[.val (.int p0), .val (.int p1), .val (.int p2), .val (.int p3), .val (.int p4), .val (.int (2 : Int32)), .val (.int u0), .val (.int u1), .val (.int u2), .val (.int u3), .val (.ref ba), .val (.ref r), .val (.ref r)] [(.int u0), (.int u0)]))
      refine Go.by (fun t9_ q9_ => XS.icmpYes W743.here W743.hx rfl (pc0 := 168) (pc' := 173) rfl (hb hby at_168) rfl (teq rfl).1 (by decide) (by decide) q9_) ?_
      show Go p e below s Z [] _ _ _ (T742.setTop (mkF m 173 #[.val (.int p0), .val (.int p1), .val (.int p2), .val (.int p3), .val (.int p4), .val (.int (2 : Int32)), .val (.int u0), .val (.int u1), .val (.int u2), .val (.int u3), .val (.ref ba), .val (.ref r), .val (.ref r)] []))
      refine Go.by (fun t9_ q9_ => XS.aload W743.here W743.hx rfl (hb hby at_173) rfl rfl (XS.iload W743.here W743.hx rfl (hb hby at_175) rfl (XS.iconst W743.here W743.hx rfl (hb hby at_177) (XS.isub W743.here W743.hx rfl (hb hby at_178) rfl q9_)))) ?_
      show Go p e below s Z [] _ _ _ (T742.setTop (mkF m 179 #[.val (.int p0), .val (.int p1), .val (.int p2), .val (.int p3), .val (.int p4), .val (.int (2 : Int32)), .val (.int u0), .val (.int u1), .val (.int u2), .val (.int u3), .val (.ref ba), .val (.ref r), .val (.ref r)] [(.int ((2 : Int32) - (1 : Int32))), (.ref r)]))
      show Go p e below s Z [] _ _ _ (T742.setTop (mkF m 179 #[.val (.int p0), .val (.int p1), .val (.int p2), .val (.int p3), .val (.int p4), .val (.int (2 : Int32)), .val (.int u0), .val (.int u1), .val (.int u2), .val (.int u3), .val (.ref ba), .val (.ref r), .val (.ref r)] [(.int (1 : Int32)), (.ref r)]))
      refine W743.strCh (k_ch hw) (wd2 hw) (wd57 hw) (wd58 hw) (wd60 hw) (wd59 hw) (S_r.ext X9) hlat (by simp) (SG1.ext W743.old) hG (SFM.ext W743.old) rfm (i := 1) (by simp) rfl (by decide) (Wt := 0) (by decide) (by rw [hml]; rfl) (Nat.le_of_eq rfl) (by decide) (by decide) (hb hby at_179) ?_
      intro T744 W745
      show Go p e below s Z [] _ _ _ (T744.setTop (mkF m 182 #[.val (.int p0), .val (.int p1), .val (.int p2), .val (.int p3), .val (.int p4), .val (.int (2 : Int32)), .val (.int u0), .val (.int u1), .val (.int u2), .val (.int u3), .val (.ref ba), .val (.ref r), .val (.ref r)] [(.int u1)]))
      refine Go.by (fun t9_ q9_ => XS.aload W745.here W745.hx rfl (hb hby at_182) rfl rfl (XS.iload W745.here W745.hx rfl (hb hby at_184) rfl (XS.iconst W745.here W745.hx rfl (hb hby at_186) (XS.isub W745.here W745.hx rfl (hb hby at_187) rfl q9_)))) ?_
      show Go p e below s Z [] _ _ _ (T744.setTop (mkF m 188 #[.val (.int p0), .val (.int p1), .val (.int p2), .val (.int p3), .val (.int p4), .val (.int (2 : Int32)), .val (.int u0), .val (.int u1), .val (.int u2), .val (.int u3), .val (.ref ba), .val (.ref r), .val (.ref r)] [(.int ((2 : Int32) - (1 : Int32))), (.ref ba), (.int u1)]))
      show Go p e below s Z [] _ _ _ (T744.setTop (mkF m 188 #[.val (.int p0), .val (.int p1), .val (.int p2), .val (.int p3), .val (.int p4), .val (.int (2 : Int32)), .val (.int u0), .val (.int u1), .val (.int u2), .val (.int u3), .val (.ref ba), .val (.ref r), .val (.ref r)] [(.int (1 : Int32)), (.ref ba), (.int u1)]))
      have X746 : Ext h711 h734 := (Ext.keep' E718 K736 (allS (Nat.le_of_eq g_r) all0))
      have X747 : Ext h711 h739 := (Ext.trans' X746 X9)
      refine W745.cald (V714_ba.ext X747) ⟨by decide, by decide⟩ (v := (.int u1)) rfl (hb hby at_188) ?_
      show Go p e below s Z [] _ _ _ (T744.setTop (mkF m 189 #[.val (.int p0), .val (.int p1), .val (.int p2), .val (.int p3), .val (.int p4), .val (.int (2 : Int32)), .val (.int u0), .val (.int u1), .val (.int u2), .val (.int u3), .val (.ref ba), .val (.ref r), .val (.ref r)] [(.int u1), (.int u1)]))
      refine Go.by (fun t9_ q9_ => XS.icmpNo W745.here W745.hx rfl (hb hby at_189) rfl (teq rfl).2 q9_) ?_
      show Go p e below s Z [] _ _ _ (T744.setTop (mkF m 192 #[.val (.int p0), .val (.int p1), .val (.int p2), .val (.int p3), .val (.int p4), .val (.int (2 : Int32)), .val (.int u0), .val (.int u1), .val (.int u2), .val (.int u3), .val (.ref ba), .val (.ref r), .val (.ref r)] []))
      refine Go.by (fun t9_ q9_ => XS.iconst W745.here W745.hx rfl (hb hby at_192) (XS.goto W745.here W745.hx rfl (pc0 := 193) (pc' := 197) rfl (hb hby at_193) (by decide) (by decide) q9_)) ?_
      show Go p e below s Z [] _ _ _ (T744.setTop (mkF m 197 #[.val (.int p0), .val (.int p1), .val (.int p2), .val (.int p3), .val (.int p4), .val (.int (2 : Int32)), .val (.int u0), .val (.int u1), .val (.int u2), .val (.int u3), .val (.ref ba), .val (.ref r), .val (.ref r)] [(.int (1 : Int32))]))
      exact W745.retN (z' := (1 : Int32)) (by decide) (by decide) hret (by simp) (hb hby at_197) rfl rfl
  · show Go p e below s Z [] _ _ _ (T0.setTop (mkF m 24 #[.val (.int p0), .val (.int p1), .val (.int p2), .val (.int p3), .val (.int p4), .val (.int (3 : Int32)), .val (.int u0), .val (.int u1), .val (.int u2), .val (.int u3), .unset, .unset, .unset] []))
    refine Go.by (fun t9_ q9_ => XS.iload W0.here W0.hx rfl (hb hby at_24) rfl (XS.iconst W0.here W0.hx rfl (hb hby at_26) q9_)) ?_
    show Go p e below s Z [] _ _ _ (T0.setTop (mkF m 27 #[.val (.int p0), .val (.int p1), .val (.int p2), .val (.int p3), .val (.int p4), .val (.int (3 : Int32)), .val (.int u0), .val (.int u1), .val (.int u2), .val (.int u3), .unset, .unset, .unset] [(.int (1 : Int32)), (.int (3 : Int32))]))
    refine Go.by (fun t9_ q9_ => XS.icmpYes W0.here W0.hx rfl (pc0 := 27) (pc' := 43) rfl (hb hby at_27) rfl (feq (by decide)).2 (by decide) (by decide) q9_) ?_
    show Go p e below s Z [] _ _ _ (T0.setTop (mkF m 43 #[.val (.int p0), .val (.int p1), .val (.int p2), .val (.int p3), .val (.int p4), .val (.int (3 : Int32)), .val (.int u0), .val (.int u1), .val (.int u2), .val (.int u3), .unset, .unset, .unset] []))
    refine Go.by (fun t9_ q9_ => XS.iload W0.here W0.hx rfl (hb hby at_43) rfl (XS.iconst W0.here W0.hx rfl (hb hby at_45) q9_)) ?_
    show Go p e below s Z [] _ _ _ (T0.setTop (mkF m 46 #[.val (.int p0), .val (.int p1), .val (.int p2), .val (.int p3), .val (.int p4), .val (.int (3 : Int32)), .val (.int u0), .val (.int u1), .val (.int u2), .val (.int u3), .unset, .unset, .unset] [(.int (2 : Int32)), (.int (3 : Int32))]))
    refine Go.by (fun t9_ q9_ => XS.icmpYes W0.here W0.hx rfl (pc0 := 46) (pc' := 67) rfl (hb hby at_46) rfl (feq (by decide)).2 (by decide) (by decide) q9_) ?_
    show Go p e below s Z [] _ _ _ (T0.setTop (mkF m 67 #[.val (.int p0), .val (.int p1), .val (.int p2), .val (.int p3), .val (.int p4), .val (.int (3 : Int32)), .val (.int u0), .val (.int u1), .val (.int u2), .val (.int u3), .unset, .unset, .unset] []))
    refine Go.by (fun t9_ q9_ => XS.iload W0.here W0.hx rfl (hb hby at_67) rfl (XS.iconst W0.here W0.hx rfl (hb hby at_69) q9_)) ?_
    show Go p e below s Z [] _ _ _ (T0.setTop (mkF m 70 #[.val (.int p0), .val (.int p1), .val (.int p2), .val (.int p3), .val (.int p4), .val (.int (3 : Int32)), .val (.int u0), .val (.int u1), .val (.int u2), .val (.int u3), .unset, .unset, .unset] [(.int (3 : Int32)), (.int (3 : Int32))]))
    refine Go.by (fun t9_ q9_ => XS.icmpNo W0.here W0.hx rfl (hb hby at_70) rfl (teq rfl).2 q9_) ?_
    show Go p e below s Z [] _ _ _ (T0.setTop (mkF m 73 #[.val (.int p0), .val (.int p1), .val (.int p2), .val (.int p3), .val (.int p4), .val (.int (3 : Int32)), .val (.int u0), .val (.int u1), .val (.int u2), .val (.int u3), .unset, .unset, .unset] []))
    refine Go.by (fun t9_ q9_ => XS.iconst W0.here W0.hx rfl (hb hby at_73) q9_) ?_
    show Go p e below s Z [] _ _ _ (T0.setTop (mkF m 74 #[.val (.int p0), .val (.int p1), .val (.int p2), .val (.int p3), .val (.int p4), .val (.int (3 : Int32)), .val (.int u0), .val (.int u1), .val (.int u2), .val (.int u3), .unset, .unset, .unset] [(.int (3 : Int32))]))
    refine W0.newp (aty := .char) (wd0 hw) (hb hby at_74) (by decide) (cap := 3) (by decide) (by decide) (k' := 1) (n' := 3) rfl rfl (by decide) (by decide) (ad := "[C") rfl ?_
    intro T748 h749 ba k_ba W750 E751 g_ba z_ba A_ba V_ba
    have V1_ba : Arv Z h749 ba k_ba .char (3 : Int32) [(.int (0 : Int32)), (.int (0 : Int32)), (.int (0 : Int32))] (.int (0 : Int32)) := V_ba.pad (pad_rep [] (.int (0 : Int32)) 3)
    show Go p e below s Z [] _ _ _ (T748.setTop (mkF m 76 #[.val (.int p0), .val (.int p1), .val (.int p2), .val (.int p3), .val (.int p4), .val (.int (3 : Int32)), .val (.int u0), .val (.int u1), .val (.int u2), .val (.int u3), .unset, .unset, .unset] [(.ref ba)]))
    refine Go.by (fun t9_ q9_ => XS.dup W750.here W750.hx rfl (hb hby at_76) rfl rfl (XS.iconst W750.here W750.hx rfl (hb hby at_77) (XS.iload W750.here W750.hx rfl (hb hby at_78) rfl q9_))) ?_
    show Go p e below s Z [] _ _ _ (T748.setTop (mkF m 80 #[.val (.int p0), .val (.int p1), .val (.int p2), .val (.int p3), .val (.int p4), .val (.int (3 : Int32)), .val (.int u0), .val (.int u1), .val (.int u2), .val (.int u3), .unset, .unset, .unset] [(.int u0), (.int (0 : Int32)), (.ref ba), (.ref ba)]))
    refine W750.cast_ V1_ba ⟨by decide, by decide⟩ (i := 0) rfl (by simp) (v' := u0) (nar_id r_u0) z_ba (List.mem_of_getElem? (i := 0) rfl) (hb hby at_80) ?_
    intro T752 h753 W754 Wr755 V756_ba'
    have V756_ba : Arv Z h753 ba k_ba .char (3 : Int32) [(.int u0), (.int (0 : Int32)), (.int (0 : Int32))] (.int (0 : Int32)) := V756_ba'
    show Go p e below s Z [] _ _ _ (T752.setTop (mkF m 81 #[.val (.int p0), .val (.int p1), .val (.int p2), .val (.int p3), .val (.int p4), .val (.int (3 : Int32)), .val (.int u0), .val (.int u1), .val (.int u2), .val (.int u3), .unset, .unset, .unset] [(.ref ba)]))
    refine Go.by (fun t9_ q9_ => XS.dup W754.here W754.hx rfl (hb hby at_81) rfl rfl (XS.iconst W754.here W754.hx rfl (hb hby at_82) (XS.iload W754.here W754.hx rfl (hb hby at_83) rfl q9_))) ?_
    show Go p e below s Z [] _ _ _ (T752.setTop (mkF m 85 #[.val (.int p0), .val (.int p1), .val (.int p2), .val (.int p3), .val (.int p4), .val (.int (3 : Int32)), .val (.int u0), .val (.int u1), .val (.int u2), .val (.int u3), .unset, .unset, .unset] [(.int u1), (.int (1 : Int32)), (.ref ba), (.ref ba)]))
    refine W754.cast_ V756_ba ⟨by decide, by decide⟩ (i := 1) rfl (by simp) (v' := u1) (nar_id r_u1) z_ba (List.mem_of_getElem? (i := 0) rfl) (hb hby at_85) ?_
    intro T757 h758 W759 Wr760 V761_ba'
    have V761_ba : Arv Z h758 ba k_ba .char (3 : Int32) [(.int u0), (.int u1), (.int (0 : Int32))] (.int (0 : Int32)) := V761_ba'
    show Go p e below s Z [] _ _ _ (T757.setTop (mkF m 86 #[.val (.int p0), .val (.int p1), .val (.int p2), .val (.int p3), .val (.int p4), .val (.int (3 : Int32)), .val (.int u0), .val (.int u1), .val (.int u2), .val (.int u3), .unset, .unset, .unset] [(.ref ba)]))
    refine Go.by (fun t9_ q9_ => XS.dup W759.here W759.hx rfl (hb hby at_86) rfl rfl (XS.iconst W759.here W759.hx rfl (hb hby at_87) (XS.iload W759.here W759.hx rfl (hb hby at_88) rfl q9_))) ?_
    show Go p e below s Z [] _ _ _ (T757.setTop (mkF m 90 #[.val (.int p0), .val (.int p1), .val (.int p2), .val (.int p3), .val (.int p4), .val (.int (3 : Int32)), .val (.int u0), .val (.int u1), .val (.int u2), .val (.int u3), .unset, .unset, .unset] [(.int u2), (.int (2 : Int32)), (.ref ba), (.ref ba)]))
    refine W759.cast_ V761_ba ⟨by decide, by decide⟩ (i := 2) rfl (by simp) (v' := u2) (nar_id r_u2) z_ba (List.mem_of_getElem? (i := 0) rfl) (hb hby at_90) ?_
    intro T762 h763 W764 Wr765 V766_ba'
    have V766_ba : Arv Z h763 ba k_ba .char (3 : Int32) [(.int u0), (.int u1), (.int u2)] (.int (0 : Int32)) := V766_ba'
    show Go p e below s Z [] _ _ _ (T762.setTop (mkF m 91 #[.val (.int p0), .val (.int p1), .val (.int p2), .val (.int p3), .val (.int p4), .val (.int (3 : Int32)), .val (.int u0), .val (.int u1), .val (.int u2), .val (.int u3), .unset, .unset, .unset] [(.ref ba)]))
    refine Go.by (fun t9_ q9_ => XS.astore W764.here W764.hx rfl (hb hby at_91) rfl rfl (l' := #[.val (.int p0), .val (.int p1), .val (.int p2), .val (.int p3), .val (.int p4), .val (.int (3 : Int32)), .val (.int u0), .val (.int u1), .val (.int u2), .val (.int u3), .val (.ref ba), .unset, .unset]) rfl (XS.goto W764.here W764.hx rfl (pc0 := 93) (pc' := 121) rfl (hb hby at_93) (by decide) (by decide) q9_)) ?_
    show Go p e below s Z [] _ _ _ (T762.setTop (mkF m 121 #[.val (.int p0), .val (.int p1), .val (.int p2), .val (.int p3), .val (.int p4), .val (.int (3 : Int32)), .val (.int u0), .val (.int u1), .val (.int u2), .val (.int u3), .val (.ref ba), .unset, .unset] []))
    refine W764.new (wd1 hw) (wd2 hw) (wd3 hw) (hb hby at_121) (k' := 2) (n' := 7) rfl rfl (by decide) (by decide) ?_
    intro T767 h768 r W769 E770 g_r z_r A_r D_r
    have F_coder_r : Fld Z h768 r "java/lang/String" "coder" "B" (.int (0 : Int32)) := D_r (Or.inr (wd27 hw)) (ty := .byte) (by decide)
    have F_value_r : Fld Z h768 r "java/lang/String" "value" "[B" .null := D_r (Or.inr (wd29 hw)) (ty := (.array .byte)) (by decide)
    show Go p e below s Z [] _ _ _ (T767.setTop (mkF m 124 #[.val (.int p0), .val (.int p1), .val (.int p2), .val (.int p3), .val (.int p4), .val (.int (3 : Int32)), .val (.int u0), .val (.int u1), .val (.int u2), .val (.int u3), .val (.ref ba), .unset, .unset] [(.ref r)]))
    refine Go.by (fun t9_ q9_ => XS.dup W769.here W769.hx rfl (hb hby at_124) rfl rfl (XS.aload W769.here W769.hx rfl (hb hby at_125) rfl rfl q9_)) ?_
    show Go p e below s Z [] _ _ _ (T767.setTop (mkF m 127 #[.val (.int p0), .val (.int p1), .val (.int p2), .val (.int p3), .val (.int p4), .val (.int (3 : Int32)), .val (.int u0), .val (.int u1), .val (.int u2), .val (.int u3), .val (.ref ba), .unset, .unset] [(.ref ba), (.ref r), (.ref r)]))
    by_cases hbig : (255 : Int32) < u0 ∨ (255 : Int32) < u1 ∨ (255 : Int32) < u2
    · refine W769.callI (y := (⟨"java/lang/String", "<init>", "([C)V"⟩ : MethodName)) rfl (wd4 hw) (wd5 hw) (wd3 hw) (wd6 hw) (by decide) (a := r) (c_s16_3 l Z a0 hw hEL h768 W769.old r ba k_ba u0 u1 u2 G1 A_r F_value_r F_coder_r z_r SAD SHI SLO SG1 hG (V766_ba.ext E770) r_u0 r_u1 r_u2 hbig) (allS (List.mem_of_getElem? (i := 0) rfl) all0) (by decide) (by decide) (k' := 4) (n' := 16) rfl rfl (by decide) (by decide) (by rw [hml]; rfl) (argsL := [(.ref ba)]) (rest := [(.ref r)]) (lenOf pd_14 rfl) rfl rfl (Wt := 1) (Nat.le_of_eq rfl) (hb hby at_127) ?_
      intro v_ T771 h773 W772 hq_
      obtain ⟨rfl, K1, ta, k_ta, E1, FV1, FC1, A1⟩ := hq_
      have S_r : Str Z h773 r [u0, u1, u2] := ⟨ta, k_ta, 1, _, _, E1, FV1, FC1, A1, Or.inr ⟨rfl, rfl, rfl, by simpa using hbig⟩, by simp only [List.mem_cons, List.not_mem_nil, or_false, forall_eq_or_imp, forall_eq]; exact ⟨r_u0, r_u1, r_u2⟩⟩
      show Go p e below s Z [] _ _ _ (T771.setTop (mkF m 130 #[.val (.int p0), .val (.int p1), .val (.int p2), .val (.int p3), .val (.int p4), .val (.int (3 : Int32)), .val (.int u0), .val (.int u1), .val (.int u2), .val (.int u3), .val (.ref ba), .unset, .unset] [(.ref r)]))
      refine Go.by (fun t9_ q9_ => XS.astore W772.here W772.hx rfl (hb hby at_130) rfl rfl (l' := #[.val (.int p0), .val (.int p1), .val (.int p2), .val (.int p3), .val (.int p4), .val (.int (3 : Int32)), .val (.int u0), .val (.int u1), .val (.int u2), .val (.int u3), .val (.ref ba), .val (.ref r), .unset]) rfl (XS.aload W772.here W772.hx rfl (hb hby at_132) rfl rfl q9_)) ?_
      show Go p e below s Z [] _ _ _ (T771.setTop (mkF m 134 #[.val (.int p0), .val (.int p1), .val (.int p2), .val (.int p3), .val (.int p4), .val (.int (3 : Int32)), .val (.int u0), .val (.int u1), .val (.int u2), .val (.int u3), .val (.ref ba), .val (.ref r), .unset] [(.ref r)]))
      refine W772.callS (y := (⟨"com/example/admit/admit/model/AclEntry", "requirePrivilegeName", "(Ljava/lang/String;)Ljava/lang/String;"⟩ : MethodName)) (wd30 hw) (wd31 hw) (wd32 hw) (wd33 hw) (by decide) (c_rpn l Z a0 hw hEL h773 W772.old r ta k_ta _ _ E1 FV1 A1 (by decide)) all0 (by decide) (by decide) (k' := 6) (n' := 56) rfl rfl (by decide) (by decide) (by rw [hml]; rfl) (argsL := [(.ref r)]) (rest := []) (lenOf pd_15 rfl) rfl rfl (Wt := 0) (Nat.le_of_eq rfl) (hb hby at_134) ?_
      intro v_ T774 h776 W775 hq_
      obtain ⟨rfl, X9⟩ := hq_
      show Go p e below s Z [] _ _ _ (T774.setTop (mkF m 137 #[.val (.int p0), .val (.int p1), .val (.int p2), .val (.int p3), .val (.int p4), .val (.int (3 : Int32)), .val (.int u0), .val (.int u1), .val (.int u2), .val (.int u3), .val (.ref ba), .val (.ref r), .unset] [(.ref r)]))
      refine Go.by (fun t9_ q9_ => XS.astore W775.here W775.hx rfl (hb hby at_137) rfl rfl (l' := #[.val (.int p0), .val (.int p1), .val (.int p2), .val (.int p3), .val (.int p4), .val (.int (3 : Int32)), .val (.int u0), .val (.int u1), .val (.int u2), .val (.int u3), .val (.ref ba), .val (.ref r), .val (.ref r)]) rfl (XS.aload W775.here W775.hx rfl (hb hby at_139) rfl rfl (XS.aload W775.here W775.hx rfl (hb hby at_141) rfl rfl q9_))) ?_
      show Go p e below s Z [] _ _ _ (T774.setTop (mkF m 143 #[.val (.int p0), .val (.int p1), .val (.int p2), .val (.int p3), .val (.int p4), .val (.int (3 : Int32)), .val (.int u0), .val (.int u1), .val (.int u2), .val (.int u3), .val (.ref ba), .val (.ref r), .val (.ref r)] [(.ref r), (.ref r)]))
      refine Go.by (fun t9_ q9_ => acmpW W775 (g := (mkF m 143 #[.val (.int p0), .val (.int p1), .val (.int p2), .val (.int p3), .val (.int p4), .val (.int (3 : Int32)), .val (.int u0), .val (.int u1), .val (.int u2), .val (.int u3), .val (.ref ba), .val (.ref r), .val (.ref r)] [(.ref r), (.ref r)])) rfl rfl rfl (pc0 := 143) (pc' := 148) (same := true) rfl (hb hby at_143) rfl (decide_eq_true rfl) (by decide) (by decide) q9_) ?_
      show Go p e below s Z [] _ _ _ (T774.setTop (mkF m 148 #[.val (.int p0), .val (.int p1), .val (.int p2), .val (.int p3), .val (.int p4), .val (.int (3 : Int32)), .val (.int u0), .val (.int u1), .val (.int u2), .val (.int u3), .val (.ref ba), .val (.ref r), .val (.ref r)] []))
      refine Go.by (fun t9_ q9_ => XS.aload W775.here W775.hx rfl (hb hby at_148) rfl rfl q9_) ?_
      show Go p e below s Z [] _ _ _ (T774.setTop (mkF m 150 #[.val (.int p0), .val (.int p1), .val (.int p2), .val (.int p3), .val (.int p4), .val (.int (3 : Int32)), .val (.int u0), .val (.int u1), .val (.int u2), .val (.int u3), .val (.ref ba), .val (.ref r), .val (.ref r)] [(.ref r)]))
      refine W775.strLen (k_len hw) (wd2 hw) (wd47 hw) (wd48 hw) (wd50 hw) (wd49 hw) (S_r.ext X9) (by simp) (SG1.ext W775.old) hG (by decide) (Wt := 0) (by decide) (by rw [hml]; rfl) (Nat.le_of_eq rfl) (by decide) (by decide) (hb hby at_150) ?_
      intro T777 W778
      show Go p e below s Z [] _ _ _ (T777.setTop (mkF m 153 #[.val (.int p0), .val (.int p1), .val (.int p2), .val (.int p3), .val (.int p4), .val (.int (3 : Int32)), .val (.int u0), .val (.int u1), .val (.int u2), .val (.int u3), .val (.ref ba), .val (.ref r), .val (.ref r)] [(.int (3 : Int32))]))
      refine Go.by (fun t9_ q9_ => XS.iload W778.here W778.hx rfl (hb hby at_153) rfl q9_) ?_
      show Go p e below s Z [] _ _ _ (T777.setTop (mkF m 155 #[.val (.int p0), .val (.int p1), .val (.int p2), .val (.int p3), .val (.int p4), .val (.int (3 : Int32)), .val (.int u0), .val (.int u1), .val (.int u2), .val (.int u3), .val (.ref ba), .val (.ref r), .val (.ref r)] [(.int (3 : Int32)), (.int (3 : Int32))]))
      refine Go.by (fun t9_ q9_ => XS.icmpYes W778.here W778.hx rfl (pc0 := 155) (pc' := 160) rfl (hb hby at_155) rfl (teq rfl).1 (by decide) (by decide) q9_) ?_
      show Go p e below s Z [] _ _ _ (T777.setTop (mkF m 160 #[.val (.int p0), .val (.int p1), .val (.int p2), .val (.int p3), .val (.int p4), .val (.int (3 : Int32)), .val (.int u0), .val (.int u1), .val (.int u2), .val (.int u3), .val (.ref ba), .val (.ref r), .val (.ref r)] []))
      refine Go.by (fun t9_ q9_ => XS.aload W778.here W778.hx rfl (hb hby at_160) rfl rfl (XS.iconst W778.here W778.hx rfl (hb hby at_162) q9_)) ?_
      show Go p e below s Z [] _ _ _ (T777.setTop (mkF m 163 #[.val (.int p0), .val (.int p1), .val (.int p2), .val (.int p3), .val (.int p4), .val (.int (3 : Int32)), .val (.int u0), .val (.int u1), .val (.int u2), .val (.int u3), .val (.ref ba), .val (.ref r), .val (.ref r)] [(.int (0 : Int32)), (.ref r)]))
      refine W778.callVp (y := (⟨"java/lang/String", "charAt", "(I)C"⟩ : MethodName)) (z := (⟨"java/lang/String", "charAt", "(I)C"⟩ : MethodName)) (wd57 hw) (wd58 hw) (nf_sel rfl (wd60 hw)) (wd60 hw) (wd59 hw) (wd3 hw) (wd61 hw) (by decide) (E1.ext X9) (a := r) (c_at3_0 l Z a0 hw hEL h776 W778.old r ta k_ta _ _ _ u0 G1 fm SG1 hG SAD SHI SLO SFM rfm (E1.ext X9) (FV1.ext X9) (FC1.ext X9) (A1.ext X9) rfl rfl (StrChars.pair_says r_u0.1 r_u0.2) r_u0) all0 (by decide) (by decide) (k' := 6) (n' := 56) rfl rfl (by decide) (by decide) (by rw [hml]; rfl) (argsL := [(.int (0 : Int32))]) (rest := []) (lenOf pd_16 rfl) rfl rfl (Wt := 0) (Nat.le_of_eq rfl) (hb hby at_163) ?_
      intro T779 W780
      show Go p e below s Z [] _ _ _ (T779.setTop (mkF m 166 #[.val (.int p0), .val (.int p1), .val (.int p2), .val (.int p3), .val (.int p4), .val (.int (3 : Int32)), .val (.int u0), .val (.int u1), .val (.int u2), .val (.int u3), .val (.ref ba), .val (.ref r), .val (.ref r)] [(.int u0)]))
      refine Go.by (fun t9_ q9_ => XS.iload W780.here W780.hx rfl (hb hby at_166) rfl q9_) ?_
      show Go p e below s Z [] _ _ _ (T779.setTop (mkF m 168 #[.val (.int p0), .val (.int p1), .val (.int p2), .val (.int p3), .val (.int p4), .val (.int (3 : Int32)), .val (.int u0), .val (.int u1), .val (.int u2), .val (.int u3), .val (.ref ba), .val (.ref r), .val (.ref r)] [(.int u0), (.int u0)]))
      refine Go.by (fun t9_ q9_ => XS.icmpYes W780.here W780.hx rfl (pc0 := 168) (pc' := 173) rfl (hb hby at_168) rfl (teq rfl).1 (by decide) (by decide) q9_) ?_
      show Go p e below s Z [] _ _ _ (T779.setTop (mkF m 173 #[.val (.int p0), .val (.int p1), .val (.int p2), .val (.int p3), .val (.int p4), .val (.int (3 : Int32)), .val (.int u0), .val (.int u1), .val (.int u2), .val (.int u3), .val (.ref ba), .val (.ref r), .val (.ref r)] []))
      refine Go.by (fun t9_ q9_ => XS.aload W780.here W780.hx rfl (hb hby at_173) rfl rfl (XS.iload W780.here W780.hx rfl (hb hby at_175) rfl (XS.iconst W780.here W780.hx rfl (hb hby at_177) (XS.isub W780.here W780.hx rfl (hb hby at_178) rfl q9_)))) ?_
      show Go p e below s Z [] _ _ _ (T779.setTop (mkF m 179 #[.val (.int p0), .val (.int p1), .val (.int p2), .val (.int p3), .val (.int p4), .val (.int (3 : Int32)), .val (.int u0), .val (.int u1), .val (.int u2), .val (.int u3), .val (.ref ba), .val (.ref r), .val (.ref r)] [(.int ((3 : Int32) - (1 : Int32))), (.ref r)]))
      show Go p e below s Z [] _ _ _ (T779.setTop (mkF m 179 #[.val (.int p0), .val (.int p1), .val (.int p2), .val (.int p3), .val (.int p4), .val (.int (3 : Int32)), .val (.int u0), .val (.int u1), .val (.int u2), .val (.int u3), .val (.ref ba), .val (.ref r), .val (.ref r)] [(.int (2 : Int32)), (.ref r)]))
      refine W780.callVp (y := (⟨"java/lang/String", "charAt", "(I)C"⟩ : MethodName)) (z := (⟨"java/lang/String", "charAt", "(I)C"⟩ : MethodName)) (wd57 hw) (wd58 hw) (nf_sel rfl (wd60 hw)) (wd60 hw) (wd59 hw) (wd3 hw) (wd61 hw) (by decide) (E1.ext X9) (a := r) (c_at3_2 l Z a0 hw hEL h776 W780.old r ta k_ta _ _ _ u2 G1 fm SG1 hG SAD SHI SLO SFM rfm (E1.ext X9) (FV1.ext X9) (FC1.ext X9) (A1.ext X9) rfl rfl (StrChars.pair_says r_u2.1 r_u2.2) r_u2) all0 (by decide) (by decide) (k' := 6) (n' := 56) rfl rfl (by decide) (by decide) (by rw [hml]; rfl) (argsL := [(.int (2 : Int32))]) (rest := []) (lenOf pd_16 rfl) rfl rfl (Wt := 0) (Nat.le_of_eq rfl) (hb hby at_179) ?_
      intro T781 W782
      show Go p e below s Z [] _ _ _ (T781.setTop (mkF m 182 #[.val (.int p0), .val (.int p1), .val (.int p2), .val (.int p3), .val (.int p4), .val (.int (3 : Int32)), .val (.int u0), .val (.int u1), .val (.int u2), .val (.int u3), .val (.ref ba), .val (.ref r), .val (.ref r)] [(.int u2)]))
      refine Go.by (fun t9_ q9_ => XS.aload W782.here W782.hx rfl (hb hby at_182) rfl rfl (XS.iload W782.here W782.hx rfl (hb hby at_184) rfl (XS.iconst W782.here W782.hx rfl (hb hby at_186) (XS.isub W782.here W782.hx rfl (hb hby at_187) rfl q9_)))) ?_
      show Go p e below s Z [] _ _ _ (T781.setTop (mkF m 188 #[.val (.int p0), .val (.int p1), .val (.int p2), .val (.int p3), .val (.int p4), .val (.int (3 : Int32)), .val (.int u0), .val (.int u1), .val (.int u2), .val (.int u3), .val (.ref ba), .val (.ref r), .val (.ref r)] [(.int ((3 : Int32) - (1 : Int32))), (.ref ba), (.int u2)]))
      show Go p e below s Z [] _ _ _ (T781.setTop (mkF m 188 #[.val (.int p0), .val (.int p1), .val (.int p2), .val (.int p3), .val (.int p4), .val (.int (3 : Int32)), .val (.int u0), .val (.int u1), .val (.int u2), .val (.int u3), .val (.ref ba), .val (.ref r), .val (.ref r)] [(.int (2 : Int32)), (.ref ba), (.int u2)]))
      have X783 : Ext h763 h773 := (Ext.keep' E770 K1 (allS (Nat.le_of_eq g_r) all0))
      have X784 : Ext h763 h776 := (Ext.trans' X783 X9)
      refine W782.cald (V766_ba.ext X784) ⟨by decide, by decide⟩ (v := (.int u2)) rfl (hb hby at_188) ?_
      show Go p e below s Z [] _ _ _ (T781.setTop (mkF m 189 #[.val (.int p0), .val (.int p1), .val (.int p2), .val (.int p3), .val (.int p4), .val (.int (3 : Int32)), .val (.int u0), .val (.int u1), .val (.int u2), .val (.int u3), .val (.ref ba), .val (.ref r), .val (.ref r)] [(.int u2), (.int u2)]))
      refine Go.by (fun t9_ q9_ => XS.icmpNo W782.here W782.hx rfl (hb hby at_189) rfl (teq rfl).2 q9_) ?_
      show Go p e below s Z [] _ _ _ (T781.setTop (mkF m 192 #[.val (.int p0), .val (.int p1), .val (.int p2), .val (.int p3), .val (.int p4), .val (.int (3 : Int32)), .val (.int u0), .val (.int u1), .val (.int u2), .val (.int u3), .val (.ref ba), .val (.ref r), .val (.ref r)] []))
      refine Go.by (fun t9_ q9_ => XS.iconst W782.here W782.hx rfl (hb hby at_192) (XS.goto W782.here W782.hx rfl (pc0 := 193) (pc' := 197) rfl (hb hby at_193) (by decide) (by decide) q9_)) ?_
      show Go p e below s Z [] _ _ _ (T781.setTop (mkF m 197 #[.val (.int p0), .val (.int p1), .val (.int p2), .val (.int p3), .val (.int p4), .val (.int (3 : Int32)), .val (.int u0), .val (.int u1), .val (.int u2), .val (.int u3), .val (.ref ba), .val (.ref r), .val (.ref r)] [(.int (1 : Int32))]))
      exact W782.retN (z' := (1 : Int32)) (by decide) (by decide) hret (by simp) (hb hby at_197) rfl rfl
    · have hlat : ∀ c ∈ [u0, u1, u2], ¬ (255 : Int32) < c := by intro c hc h5; simp only [List.mem_cons, List.not_mem_nil, or_false] at hc; exact hbig (by rcases hc with rfl | rfl | rfl <;> simp [h5])
      refine W769.strV (cs := [u0, u1, u2]) (k_words hw) (wd2 hw) (wd4 hw) (wd5 hw) A_r F_value_r F_coder_r (V766_ba.ext E770) (SG1.ext W769.old) hG (q := 3) rfl rfl (by decide) (by decide) (by intro c hc; refine ⟨?_, hlat c hc⟩; simp only [List.mem_cons, List.not_mem_nil, or_false] at hc; rcases hc with rfl | rfl | rfl; exact r_u0.1; exact r_u1.1; exact r_u2.1) z_r (List.mem_of_getElem? (i := 0) rfl) (by decide) (Wt := 1) (by decide) (k' := 3) (n' := 10) rfl rfl (by decide) (by decide) (by rw [hml]; rfl) (Nat.le_of_eq rfl) (hb hby at_127) ?_
      intro T785 h786 W787 K788 S_r
      show Go p e below s Z [] _ _ _ (T785.setTop (mkF m 130 #[.val (.int p0), .val (.int p1), .val (.int p2), .val (.int p3), .val (.int p4), .val (.int (3 : Int32)), .val (.int u0), .val (.int u1), .val (.int u2), .val (.int u3), .val (.ref ba), .unset, .unset] [(.ref r)]))
      obtain ⟨ta, k_ta, cd, N2, vs, s1, s2, s3, s4, s5, s6⟩ := id S_r
      obtain ⟨rfl, rfl, rfl⟩ : cd = 0 ∧ N2 = (3 : Int32) ∧ vs = _ := by rcases s5 with ⟨q1, q2, q3, -⟩ | ⟨-, -, -, c, hc, h5⟩; exact ⟨q1, q2, q3⟩; exact absurd h5 (hlat c hc)
      refine Go.by (fun t9_ q9_ => XS.astore W787.here W787.hx rfl (hb hby at_130) rfl rfl (l' := #[.val (.int p0), .val (.int p1), .val (.int p2), .val (.int p3), .val (.int p4), .val (.int (3 : Int32)), .val (.int u0), .val (.int u1), .val (.int u2), .val (.int u3), .val (.ref ba), .val (.ref r), .unset]) rfl (XS.aload W787.here W787.hx rfl (hb hby at_132) rfl rfl q9_)) ?_
      show Go p e below s Z [] _ _ _ (T785.setTop (mkF m 134 #[.val (.int p0), .val (.int p1), .val (.int p2), .val (.int p3), .val (.int p4), .val (.int (3 : Int32)), .val (.int u0), .val (.int u1), .val (.int u2), .val (.int u3), .val (.ref ba), .val (.ref r), .unset] [(.ref r)]))
      refine W787.callS (y := (⟨"com/example/admit/admit/model/AclEntry", "requirePrivilegeName", "(Ljava/lang/String;)Ljava/lang/String;"⟩ : MethodName)) (wd30 hw) (wd31 hw) (wd32 hw) (wd33 hw) (by decide) (c_rpn l Z a0 hw hEL h786 W787.old r ta k_ta _ _ (Str.exa S_r) s2 s4 (by decide)) all0 (by decide) (by decide) (k' := 5) (n' := 50) rfl rfl (by decide) (by decide) (by rw [hml]; rfl) (argsL := [(.ref r)]) (rest := []) (lenOf pd_15 rfl) rfl rfl (Wt := 0) (Nat.le_of_eq rfl) (hb hby at_134) ?_
      intro v_ T789 h791 W790 hq_
      obtain ⟨rfl, X9⟩ := hq_
      show Go p e below s Z [] _ _ _ (T789.setTop (mkF m 137 #[.val (.int p0), .val (.int p1), .val (.int p2), .val (.int p3), .val (.int p4), .val (.int (3 : Int32)), .val (.int u0), .val (.int u1), .val (.int u2), .val (.int u3), .val (.ref ba), .val (.ref r), .unset] [(.ref r)]))
      refine Go.by (fun t9_ q9_ => XS.astore W790.here W790.hx rfl (hb hby at_137) rfl rfl (l' := #[.val (.int p0), .val (.int p1), .val (.int p2), .val (.int p3), .val (.int p4), .val (.int (3 : Int32)), .val (.int u0), .val (.int u1), .val (.int u2), .val (.int u3), .val (.ref ba), .val (.ref r), .val (.ref r)]) rfl (XS.aload W790.here W790.hx rfl (hb hby at_139) rfl rfl (XS.aload W790.here W790.hx rfl (hb hby at_141) rfl rfl q9_))) ?_
      show Go p e below s Z [] _ _ _ (T789.setTop (mkF m 143 #[.val (.int p0), .val (.int p1), .val (.int p2), .val (.int p3), .val (.int p4), .val (.int (3 : Int32)), .val (.int u0), .val (.int u1), .val (.int u2), .val (.int u3), .val (.ref ba), .val (.ref r), .val (.ref r)] [(.ref r), (.ref r)]))
      refine Go.by (fun t9_ q9_ => acmpW W790 (g := (mkF m 143 #[.val (.int p0), .val (.int p1), .val (.int p2), .val (.int p3), .val (.int p4), .val (.int (3 : Int32)), .val (.int u0), .val (.int u1), .val (.int u2), .val (.int u3), .val (.ref ba), .val (.ref r), .val (.ref r)] [(.ref r), (.ref r)])) rfl rfl rfl (pc0 := 143) (pc' := 148) (same := true) rfl (hb hby at_143) rfl (decide_eq_true rfl) (by decide) (by decide) q9_) ?_
      show Go p e below s Z [] _ _ _ (T789.setTop (mkF m 148 #[.val (.int p0), .val (.int p1), .val (.int p2), .val (.int p3), .val (.int p4), .val (.int (3 : Int32)), .val (.int u0), .val (.int u1), .val (.int u2), .val (.int u3), .val (.ref ba), .val (.ref r), .val (.ref r)] []))
      refine Go.by (fun t9_ q9_ => XS.aload W790.here W790.hx rfl (hb hby at_148) rfl rfl q9_) ?_
      show Go p e below s Z [] _ _ _ (T789.setTop (mkF m 150 #[.val (.int p0), .val (.int p1), .val (.int p2), .val (.int p3), .val (.int p4), .val (.int (3 : Int32)), .val (.int u0), .val (.int u1), .val (.int u2), .val (.int u3), .val (.ref ba), .val (.ref r), .val (.ref r)] [(.ref r)]))
      refine W790.strLen (k_len hw) (wd2 hw) (wd47 hw) (wd48 hw) (wd50 hw) (wd49 hw) (S_r.ext X9) (by simp) (SG1.ext W790.old) hG (by decide) (Wt := 0) (by decide) (by rw [hml]; rfl) (Nat.le_of_eq rfl) (by decide) (by decide) (hb hby at_150) ?_
      intro T792 W793
      show Go p e below s Z [] _ _ _ (T792.setTop (mkF m 153 #[.val (.int p0), .val (.int p1), .val (.int p2), .val (.int p3), .val (.int p4), .val (.int (3 : Int32)), .val (.int u0), .val (.int u1), .val (.int u2), .val (.int u3), .val (.ref ba), .val (.ref r), .val (.ref r)] [(.int (3 : Int32))]))
      refine Go.by (fun t9_ q9_ => XS.iload W793.here W793.hx rfl (hb hby at_153) rfl q9_) ?_
      show Go p e below s Z [] _ _ _ (T792.setTop (mkF m 155 #[.val (.int p0), .val (.int p1), .val (.int p2), .val (.int p3), .val (.int p4), .val (.int (3 : Int32)), .val (.int u0), .val (.int u1), .val (.int u2), .val (.int u3), .val (.ref ba), .val (.ref r), .val (.ref r)] [(.int (3 : Int32)), (.int (3 : Int32))]))
      refine Go.by (fun t9_ q9_ => XS.icmpYes W793.here W793.hx rfl (pc0 := 155) (pc' := 160) rfl (hb hby at_155) rfl (teq rfl).1 (by decide) (by decide) q9_) ?_
      show Go p e below s Z [] _ _ _ (T792.setTop (mkF m 160 #[.val (.int p0), .val (.int p1), .val (.int p2), .val (.int p3), .val (.int p4), .val (.int (3 : Int32)), .val (.int u0), .val (.int u1), .val (.int u2), .val (.int u3), .val (.ref ba), .val (.ref r), .val (.ref r)] []))
      refine Go.by (fun t9_ q9_ => XS.aload W793.here W793.hx rfl (hb hby at_160) rfl rfl (XS.iconst W793.here W793.hx rfl (hb hby at_162) q9_)) ?_
      show Go p e below s Z [] _ _ _ (T792.setTop (mkF m 163 #[.val (.int p0), .val (.int p1), .val (.int p2), .val (.int p3), .val (.int p4), .val (.int (3 : Int32)), .val (.int u0), .val (.int u1), .val (.int u2), .val (.int u3), .val (.ref ba), .val (.ref r), .val (.ref r)] [(.int (0 : Int32)), (.ref r)]))
      refine W793.strCh (k_ch hw) (wd2 hw) (wd57 hw) (wd58 hw) (wd60 hw) (wd59 hw) (S_r.ext X9) hlat (by simp) (SG1.ext W793.old) hG (SFM.ext W793.old) rfm (i := 0) (by simp) rfl (by decide) (Wt := 0) (by decide) (by rw [hml]; rfl) (Nat.le_of_eq rfl) (by decide) (by decide) (hb hby at_163) ?_
      intro T794 W795
      show Go p e below s Z [] _ _ _ (T794.setTop (mkF m 166 #[.val (.int p0), .val (.int p1), .val (.int p2), .val (.int p3), .val (.int p4), .val (.int (3 : Int32)), .val (.int u0), .val (.int u1), .val (.int u2), .val (.int u3), .val (.ref ba), .val (.ref r), .val (.ref r)] [(.int u0)]))
      refine Go.by (fun t9_ q9_ => XS.iload W795.here W795.hx rfl (hb hby at_166) rfl q9_) ?_
      show Go p e below s Z [] _ _ _ (T794.setTop (mkF m 168 #[.val (.int p0), .val (.int p1), .val (.int p2), .val (.int p3), .val (.int p4), .val (.int (3 : Int32)), .val (.int u0), .val (.int u1), .val (.int u2), .val (.int u3), .val (.ref ba), .val (.ref r), .val (.ref r)] [(.int u0), (.int u0)]))
      refine Go.by (fun t9_ q9_ => XS.icmpYes W795.here W795.hx rfl (pc0 := 168) (pc' := 173) rfl (hb hby at_168) rfl (teq rfl).1 (by decide) (by decide) q9_) ?_
      show Go p e below s Z [] _ _ _ (T794.setTop (mkF m 173 #[.val (.int p0), .val (.int p1), .val (.int p2), .val (.int p3), .val (.int p4), .val (.int (3 : Int32)), .val (.int u0), .val (.int u1), .val (.int u2), .val (.int u3), .val (.ref ba), .val (.ref r), .val (.ref r)] []))
      refine Go.by (fun t9_ q9_ => XS.aload W795.here W795.hx rfl (hb hby at_173) rfl rfl (XS.iload W795.here W795.hx rfl (hb hby at_175) rfl (XS.iconst W795.here W795.hx rfl (hb hby at_177) (XS.isub W795.here W795.hx rfl (hb hby at_178) rfl q9_)))) ?_
      show Go p e below s Z [] _ _ _ (T794.setTop (mkF m 179 #[.val (.int p0), .val (.int p1), .val (.int p2), .val (.int p3), .val (.int p4), .val (.int (3 : Int32)), .val (.int u0), .val (.int u1), .val (.int u2), .val (.int u3), .val (.ref ba), .val (.ref r), .val (.ref r)] [(.int ((3 : Int32) - (1 : Int32))), (.ref r)]))
      show Go p e below s Z [] _ _ _ (T794.setTop (mkF m 179 #[.val (.int p0), .val (.int p1), .val (.int p2), .val (.int p3), .val (.int p4), .val (.int (3 : Int32)), .val (.int u0), .val (.int u1), .val (.int u2), .val (.int u3), .val (.ref ba), .val (.ref r), .val (.ref r)] [(.int (2 : Int32)), (.ref r)]))
      refine W795.strCh (k_ch hw) (wd2 hw) (wd57 hw) (wd58 hw) (wd60 hw) (wd59 hw) (S_r.ext X9) hlat (by simp) (SG1.ext W795.old) hG (SFM.ext W795.old) rfm (i := 2) (by simp) rfl (by decide) (Wt := 0) (by decide) (by rw [hml]; rfl) (Nat.le_of_eq rfl) (by decide) (by decide) (hb hby at_179) ?_
      intro T796 W797
      show Go p e below s Z [] _ _ _ (T796.setTop (mkF m 182 #[.val (.int p0), .val (.int p1), .val (.int p2), .val (.int p3), .val (.int p4), .val (.int (3 : Int32)), .val (.int u0), .val (.int u1), .val (.int u2), .val (.int u3), .val (.ref ba), .val (.ref r), .val (.ref r)] [(.int u2)]))
      refine Go.by (fun t9_ q9_ => XS.aload W797.here W797.hx rfl (hb hby at_182) rfl rfl (XS.iload W797.here W797.hx rfl (hb hby at_184) rfl (XS.iconst W797.here W797.hx rfl (hb hby at_186) (XS.isub W797.here W797.hx rfl (hb hby at_187) rfl q9_)))) ?_
      show Go p e below s Z [] _ _ _ (T796.setTop (mkF m 188 #[.val (.int p0), .val (.int p1), .val (.int p2), .val (.int p3), .val (.int p4), .val (.int (3 : Int32)), .val (.int u0), .val (.int u1), .val (.int u2), .val (.int u3), .val (.ref ba), .val (.ref r), .val (.ref r)] [(.int ((3 : Int32) - (1 : Int32))), (.ref ba), (.int u2)]))
      show Go p e below s Z [] _ _ _ (T796.setTop (mkF m 188 #[.val (.int p0), .val (.int p1), .val (.int p2), .val (.int p3), .val (.int p4), .val (.int (3 : Int32)), .val (.int u0), .val (.int u1), .val (.int u2), .val (.int u3), .val (.ref ba), .val (.ref r), .val (.ref r)] [(.int (2 : Int32)), (.ref ba), (.int u2)]))
      have X798 : Ext h763 h786 := (Ext.keep' E770 K788 (allS (Nat.le_of_eq g_r) all0))
      have X799 : Ext h763 h791 := (Ext.trans' X798 X9)
      refine W797.cald (V766_ba.ext X799) ⟨by decide, by decide⟩ (v := (.int u2)) rfl (hb hby at_188) ?_
      show Go p e below s Z [] _ _ _ (T796.setTop (mkF m 189 #[.val (.int p0), .val (.int p1), .val (.int p2), .val (.int p3), .val (.int p4), .val (.int (3 : Int32)), .val (.int u0), .val (.int u1), .val (.int u2), .val (.int u3), .val (.ref ba), .val (.ref r), .val (.ref r)] [(.int u2), (.int u2)]))
      refine Go.by (fun t9_ q9_ => XS.icmpNo W797.here W797.hx rfl (hb hby at_189) rfl (teq rfl).2 q9_) ?_
      show Go p e below s Z [] _ _ _ (T796.setTop (mkF m 192 #[.val (.int p0), .val (.int p1), .val (.int p2), .val (.int p3), .val (.int p4), .val (.int (3 : Int32)), .val (.int u0), .val (.int u1), .val (.int u2), .val (.int u3), .val (.ref ba), .val (.ref r), .val (.ref r)] []))
      refine Go.by (fun t9_ q9_ => XS.iconst W797.here W797.hx rfl (hb hby at_192) (XS.goto W797.here W797.hx rfl (pc0 := 193) (pc' := 197) rfl (hb hby at_193) (by decide) (by decide) q9_)) ?_
      show Go p e below s Z [] _ _ _ (T796.setTop (mkF m 197 #[.val (.int p0), .val (.int p1), .val (.int p2), .val (.int p3), .val (.int p4), .val (.int (3 : Int32)), .val (.int u0), .val (.int u1), .val (.int u2), .val (.int u3), .val (.ref ba), .val (.ref r), .val (.ref r)] [(.int (1 : Int32))]))
      exact W797.retN (z' := (1 : Int32)) (by decide) (by decide) hret (by simp) (hb hby at_197) rfl rfl
  · show Go p e below s Z [] _ _ _ (T0.setTop (mkF m 24 #[.val (.int p0), .val (.int p1), .val (.int p2), .val (.int p3), .val (.int p4), .val (.int (4 : Int32)), .val (.int u0), .val (.int u1), .val (.int u2), .val (.int u3), .unset, .unset, .unset] []))
    refine Go.by (fun t9_ q9_ => XS.iload W0.here W0.hx rfl (hb hby at_24) rfl (XS.iconst W0.here W0.hx rfl (hb hby at_26) q9_)) ?_
    show Go p e below s Z [] _ _ _ (T0.setTop (mkF m 27 #[.val (.int p0), .val (.int p1), .val (.int p2), .val (.int p3), .val (.int p4), .val (.int (4 : Int32)), .val (.int u0), .val (.int u1), .val (.int u2), .val (.int u3), .unset, .unset, .unset] [(.int (1 : Int32)), (.int (4 : Int32))]))
    refine Go.by (fun t9_ q9_ => XS.icmpYes W0.here W0.hx rfl (pc0 := 27) (pc' := 43) rfl (hb hby at_27) rfl (feq (by decide)).2 (by decide) (by decide) q9_) ?_
    show Go p e below s Z [] _ _ _ (T0.setTop (mkF m 43 #[.val (.int p0), .val (.int p1), .val (.int p2), .val (.int p3), .val (.int p4), .val (.int (4 : Int32)), .val (.int u0), .val (.int u1), .val (.int u2), .val (.int u3), .unset, .unset, .unset] []))
    refine Go.by (fun t9_ q9_ => XS.iload W0.here W0.hx rfl (hb hby at_43) rfl (XS.iconst W0.here W0.hx rfl (hb hby at_45) q9_)) ?_
    show Go p e below s Z [] _ _ _ (T0.setTop (mkF m 46 #[.val (.int p0), .val (.int p1), .val (.int p2), .val (.int p3), .val (.int p4), .val (.int (4 : Int32)), .val (.int u0), .val (.int u1), .val (.int u2), .val (.int u3), .unset, .unset, .unset] [(.int (2 : Int32)), (.int (4 : Int32))]))
    refine Go.by (fun t9_ q9_ => XS.icmpYes W0.here W0.hx rfl (pc0 := 46) (pc' := 67) rfl (hb hby at_46) rfl (feq (by decide)).2 (by decide) (by decide) q9_) ?_
    show Go p e below s Z [] _ _ _ (T0.setTop (mkF m 67 #[.val (.int p0), .val (.int p1), .val (.int p2), .val (.int p3), .val (.int p4), .val (.int (4 : Int32)), .val (.int u0), .val (.int u1), .val (.int u2), .val (.int u3), .unset, .unset, .unset] []))
    refine Go.by (fun t9_ q9_ => XS.iload W0.here W0.hx rfl (hb hby at_67) rfl (XS.iconst W0.here W0.hx rfl (hb hby at_69) q9_)) ?_
    show Go p e below s Z [] _ _ _ (T0.setTop (mkF m 70 #[.val (.int p0), .val (.int p1), .val (.int p2), .val (.int p3), .val (.int p4), .val (.int (4 : Int32)), .val (.int u0), .val (.int u1), .val (.int u2), .val (.int u3), .unset, .unset, .unset] [(.int (3 : Int32)), (.int (4 : Int32))]))
    refine Go.by (fun t9_ q9_ => XS.icmpYes W0.here W0.hx rfl (pc0 := 70) (pc' := 96) rfl (hb hby at_70) rfl (feq (by decide)).2 (by decide) (by decide) q9_) ?_
    show Go p e below s Z [] _ _ _ (T0.setTop (mkF m 96 #[.val (.int p0), .val (.int p1), .val (.int p2), .val (.int p3), .val (.int p4), .val (.int (4 : Int32)), .val (.int u0), .val (.int u1), .val (.int u2), .val (.int u3), .unset, .unset, .unset] []))
    refine Go.by (fun t9_ q9_ => XS.iconst W0.here W0.hx rfl (hb hby at_96) q9_) ?_
    show Go p e below s Z [] _ _ _ (T0.setTop (mkF m 97 #[.val (.int p0), .val (.int p1), .val (.int p2), .val (.int p3), .val (.int p4), .val (.int (4 : Int32)), .val (.int u0), .val (.int u1), .val (.int u2), .val (.int u3), .unset, .unset, .unset] [(.int (4 : Int32))]))
    refine W0.newp (aty := .char) (wd0 hw) (hb hby at_97) (by decide) (cap := 4) (by decide) (by decide) (k' := 1) (n' := 4) rfl rfl (by decide) (by decide) (ad := "[C") rfl ?_
    intro T800 h801 ba k_ba W802 E803 g_ba z_ba A_ba V_ba
    have V1_ba : Arv Z h801 ba k_ba .char (4 : Int32) [(.int (0 : Int32)), (.int (0 : Int32)), (.int (0 : Int32)), (.int (0 : Int32))] (.int (0 : Int32)) := V_ba.pad (pad_rep [] (.int (0 : Int32)) 4)
    show Go p e below s Z [] _ _ _ (T800.setTop (mkF m 99 #[.val (.int p0), .val (.int p1), .val (.int p2), .val (.int p3), .val (.int p4), .val (.int (4 : Int32)), .val (.int u0), .val (.int u1), .val (.int u2), .val (.int u3), .unset, .unset, .unset] [(.ref ba)]))
    refine Go.by (fun t9_ q9_ => XS.dup W802.here W802.hx rfl (hb hby at_99) rfl rfl (XS.iconst W802.here W802.hx rfl (hb hby at_100) (XS.iload W802.here W802.hx rfl (hb hby at_101) rfl q9_))) ?_
    show Go p e below s Z [] _ _ _ (T800.setTop (mkF m 103 #[.val (.int p0), .val (.int p1), .val (.int p2), .val (.int p3), .val (.int p4), .val (.int (4 : Int32)), .val (.int u0), .val (.int u1), .val (.int u2), .val (.int u3), .unset, .unset, .unset] [(.int u0), (.int (0 : Int32)), (.ref ba), (.ref ba)]))
    refine W802.cast_ V1_ba ⟨by decide, by decide⟩ (i := 0) rfl (by simp) (v' := u0) (nar_id r_u0) z_ba (List.mem_of_getElem? (i := 0) rfl) (hb hby at_103) ?_
    intro T804 h805 W806 Wr807 V808_ba'
    have V808_ba : Arv Z h805 ba k_ba .char (4 : Int32) [(.int u0), (.int (0 : Int32)), (.int (0 : Int32)), (.int (0 : Int32))] (.int (0 : Int32)) := V808_ba'
    show Go p e below s Z [] _ _ _ (T804.setTop (mkF m 104 #[.val (.int p0), .val (.int p1), .val (.int p2), .val (.int p3), .val (.int p4), .val (.int (4 : Int32)), .val (.int u0), .val (.int u1), .val (.int u2), .val (.int u3), .unset, .unset, .unset] [(.ref ba)]))
    refine Go.by (fun t9_ q9_ => XS.dup W806.here W806.hx rfl (hb hby at_104) rfl rfl (XS.iconst W806.here W806.hx rfl (hb hby at_105) (XS.iload W806.here W806.hx rfl (hb hby at_106) rfl q9_))) ?_
    show Go p e below s Z [] _ _ _ (T804.setTop (mkF m 108 #[.val (.int p0), .val (.int p1), .val (.int p2), .val (.int p3), .val (.int p4), .val (.int (4 : Int32)), .val (.int u0), .val (.int u1), .val (.int u2), .val (.int u3), .unset, .unset, .unset] [(.int u1), (.int (1 : Int32)), (.ref ba), (.ref ba)]))
    refine W806.cast_ V808_ba ⟨by decide, by decide⟩ (i := 1) rfl (by simp) (v' := u1) (nar_id r_u1) z_ba (List.mem_of_getElem? (i := 0) rfl) (hb hby at_108) ?_
    intro T809 h810 W811 Wr812 V813_ba'
    have V813_ba : Arv Z h810 ba k_ba .char (4 : Int32) [(.int u0), (.int u1), (.int (0 : Int32)), (.int (0 : Int32))] (.int (0 : Int32)) := V813_ba'
    show Go p e below s Z [] _ _ _ (T809.setTop (mkF m 109 #[.val (.int p0), .val (.int p1), .val (.int p2), .val (.int p3), .val (.int p4), .val (.int (4 : Int32)), .val (.int u0), .val (.int u1), .val (.int u2), .val (.int u3), .unset, .unset, .unset] [(.ref ba)]))
    refine Go.by (fun t9_ q9_ => XS.dup W811.here W811.hx rfl (hb hby at_109) rfl rfl (XS.iconst W811.here W811.hx rfl (hb hby at_110) (XS.iload W811.here W811.hx rfl (hb hby at_111) rfl q9_))) ?_
    show Go p e below s Z [] _ _ _ (T809.setTop (mkF m 113 #[.val (.int p0), .val (.int p1), .val (.int p2), .val (.int p3), .val (.int p4), .val (.int (4 : Int32)), .val (.int u0), .val (.int u1), .val (.int u2), .val (.int u3), .unset, .unset, .unset] [(.int u2), (.int (2 : Int32)), (.ref ba), (.ref ba)]))
    refine W811.cast_ V813_ba ⟨by decide, by decide⟩ (i := 2) rfl (by simp) (v' := u2) (nar_id r_u2) z_ba (List.mem_of_getElem? (i := 0) rfl) (hb hby at_113) ?_
    intro T814 h815 W816 Wr817 V818_ba'
    have V818_ba : Arv Z h815 ba k_ba .char (4 : Int32) [(.int u0), (.int u1), (.int u2), (.int (0 : Int32))] (.int (0 : Int32)) := V818_ba'
    show Go p e below s Z [] _ _ _ (T814.setTop (mkF m 114 #[.val (.int p0), .val (.int p1), .val (.int p2), .val (.int p3), .val (.int p4), .val (.int (4 : Int32)), .val (.int u0), .val (.int u1), .val (.int u2), .val (.int u3), .unset, .unset, .unset] [(.ref ba)]))
    refine Go.by (fun t9_ q9_ => XS.dup W816.here W816.hx rfl (hb hby at_114) rfl rfl (XS.iconst W816.here W816.hx rfl (hb hby at_115) (XS.iload W816.here W816.hx rfl (hb hby at_116) rfl q9_))) ?_
    show Go p e below s Z [] _ _ _ (T814.setTop (mkF m 118 #[.val (.int p0), .val (.int p1), .val (.int p2), .val (.int p3), .val (.int p4), .val (.int (4 : Int32)), .val (.int u0), .val (.int u1), .val (.int u2), .val (.int u3), .unset, .unset, .unset] [(.int u3), (.int (3 : Int32)), (.ref ba), (.ref ba)]))
    refine W816.cast_ V818_ba ⟨by decide, by decide⟩ (i := 3) rfl (by simp) (v' := u3) (nar_id r_u3) z_ba (List.mem_of_getElem? (i := 0) rfl) (hb hby at_118) ?_
    intro T819 h820 W821 Wr822 V823_ba'
    have V823_ba : Arv Z h820 ba k_ba .char (4 : Int32) [(.int u0), (.int u1), (.int u2), (.int u3)] (.int (0 : Int32)) := V823_ba'
    show Go p e below s Z [] _ _ _ (T819.setTop (mkF m 119 #[.val (.int p0), .val (.int p1), .val (.int p2), .val (.int p3), .val (.int p4), .val (.int (4 : Int32)), .val (.int u0), .val (.int u1), .val (.int u2), .val (.int u3), .unset, .unset, .unset] [(.ref ba)]))
    refine Go.by (fun t9_ q9_ => XS.astore W821.here W821.hx rfl (hb hby at_119) rfl rfl (l' := #[.val (.int p0), .val (.int p1), .val (.int p2), .val (.int p3), .val (.int p4), .val (.int (4 : Int32)), .val (.int u0), .val (.int u1), .val (.int u2), .val (.int u3), .val (.ref ba), .unset, .unset]) rfl q9_) ?_
    show Go p e below s Z [] _ _ _ (T819.setTop (mkF m 121 #[.val (.int p0), .val (.int p1), .val (.int p2), .val (.int p3), .val (.int p4), .val (.int (4 : Int32)), .val (.int u0), .val (.int u1), .val (.int u2), .val (.int u3), .val (.ref ba), .unset, .unset] []))
    refine W821.new (wd1 hw) (wd2 hw) (wd3 hw) (hb hby at_121) (k' := 2) (n' := 8) rfl rfl (by decide) (by decide) ?_
    intro T824 h825 r W826 E827 g_r z_r A_r D_r
    have F_coder_r : Fld Z h825 r "java/lang/String" "coder" "B" (.int (0 : Int32)) := D_r (Or.inr (wd27 hw)) (ty := .byte) (by decide)
    have F_value_r : Fld Z h825 r "java/lang/String" "value" "[B" .null := D_r (Or.inr (wd29 hw)) (ty := (.array .byte)) (by decide)
    show Go p e below s Z [] _ _ _ (T824.setTop (mkF m 124 #[.val (.int p0), .val (.int p1), .val (.int p2), .val (.int p3), .val (.int p4), .val (.int (4 : Int32)), .val (.int u0), .val (.int u1), .val (.int u2), .val (.int u3), .val (.ref ba), .unset, .unset] [(.ref r)]))
    refine Go.by (fun t9_ q9_ => XS.dup W826.here W826.hx rfl (hb hby at_124) rfl rfl (XS.aload W826.here W826.hx rfl (hb hby at_125) rfl rfl q9_)) ?_
    show Go p e below s Z [] _ _ _ (T824.setTop (mkF m 127 #[.val (.int p0), .val (.int p1), .val (.int p2), .val (.int p3), .val (.int p4), .val (.int (4 : Int32)), .val (.int u0), .val (.int u1), .val (.int u2), .val (.int u3), .val (.ref ba), .unset, .unset] [(.ref ba), (.ref r), (.ref r)]))
    by_cases hbig : (255 : Int32) < u0 ∨ (255 : Int32) < u1 ∨ (255 : Int32) < u2 ∨ (255 : Int32) < u3
    · refine W826.callI (y := (⟨"java/lang/String", "<init>", "([C)V"⟩ : MethodName)) rfl (wd4 hw) (wd5 hw) (wd3 hw) (wd6 hw) (by decide) (a := r) (c_s16_4 l Z a0 hw hEL h825 W826.old r ba k_ba u0 u1 u2 u3 G1 A_r F_value_r F_coder_r z_r SAD SHI SLO SG1 hG (V823_ba.ext E827) r_u0 r_u1 r_u2 r_u3 hbig) (allS (List.mem_of_getElem? (i := 0) rfl) all0) (by decide) (by decide) (k' := 4) (n' := 20) rfl rfl (by decide) (by decide) (by rw [hml]; rfl) (argsL := [(.ref ba)]) (rest := [(.ref r)]) (lenOf pd_14 rfl) rfl rfl (Wt := 1) (Nat.le_of_eq rfl) (hb hby at_127) ?_
      intro v_ T828 h830 W829 hq_
      obtain ⟨rfl, K1, ta, k_ta, E1, FV1, FC1, A1⟩ := hq_
      have S_r : Str Z h830 r [u0, u1, u2, u3] := ⟨ta, k_ta, 1, _, _, E1, FV1, FC1, A1, Or.inr ⟨rfl, rfl, rfl, by simpa using hbig⟩, by simp only [List.mem_cons, List.not_mem_nil, or_false, forall_eq_or_imp, forall_eq]; exact ⟨r_u0, r_u1, r_u2, r_u3⟩⟩
      show Go p e below s Z [] _ _ _ (T828.setTop (mkF m 130 #[.val (.int p0), .val (.int p1), .val (.int p2), .val (.int p3), .val (.int p4), .val (.int (4 : Int32)), .val (.int u0), .val (.int u1), .val (.int u2), .val (.int u3), .val (.ref ba), .unset, .unset] [(.ref r)]))
      refine Go.by (fun t9_ q9_ => XS.astore W829.here W829.hx rfl (hb hby at_130) rfl rfl (l' := #[.val (.int p0), .val (.int p1), .val (.int p2), .val (.int p3), .val (.int p4), .val (.int (4 : Int32)), .val (.int u0), .val (.int u1), .val (.int u2), .val (.int u3), .val (.ref ba), .val (.ref r), .unset]) rfl (XS.aload W829.here W829.hx rfl (hb hby at_132) rfl rfl q9_)) ?_
      show Go p e below s Z [] _ _ _ (T828.setTop (mkF m 134 #[.val (.int p0), .val (.int p1), .val (.int p2), .val (.int p3), .val (.int p4), .val (.int (4 : Int32)), .val (.int u0), .val (.int u1), .val (.int u2), .val (.int u3), .val (.ref ba), .val (.ref r), .unset] [(.ref r)]))
      refine W829.callS (y := (⟨"com/example/admit/admit/model/AclEntry", "requirePrivilegeName", "(Ljava/lang/String;)Ljava/lang/String;"⟩ : MethodName)) (wd30 hw) (wd31 hw) (wd32 hw) (wd33 hw) (by decide) (c_rpn l Z a0 hw hEL h830 W829.old r ta k_ta _ _ E1 FV1 A1 (by decide)) all0 (by decide) (by decide) (k' := 6) (n' := 60) rfl rfl (by decide) (by decide) (by rw [hml]; rfl) (argsL := [(.ref r)]) (rest := []) (lenOf pd_15 rfl) rfl rfl (Wt := 0) (Nat.le_of_eq rfl) (hb hby at_134) ?_
      intro v_ T831 h833 W832 hq_
      obtain ⟨rfl, X9⟩ := hq_
      show Go p e below s Z [] _ _ _ (T831.setTop (mkF m 137 #[.val (.int p0), .val (.int p1), .val (.int p2), .val (.int p3), .val (.int p4), .val (.int (4 : Int32)), .val (.int u0), .val (.int u1), .val (.int u2), .val (.int u3), .val (.ref ba), .val (.ref r), .unset] [(.ref r)]))
      refine Go.by (fun t9_ q9_ => XS.astore W832.here W832.hx rfl (hb hby at_137) rfl rfl (l' := #[.val (.int p0), .val (.int p1), .val (.int p2), .val (.int p3), .val (.int p4), .val (.int (4 : Int32)), .val (.int u0), .val (.int u1), .val (.int u2), .val (.int u3), .val (.ref ba), .val (.ref r), .val (.ref r)]) rfl (XS.aload W832.here W832.hx rfl (hb hby at_139) rfl rfl (XS.aload W832.here W832.hx rfl (hb hby at_141) rfl rfl q9_))) ?_
      show Go p e below s Z [] _ _ _ (T831.setTop (mkF m 143 #[.val (.int p0), .val (.int p1), .val (.int p2), .val (.int p3), .val (.int p4), .val (.int (4 : Int32)), .val (.int u0), .val (.int u1), .val (.int u2), .val (.int u3), .val (.ref ba), .val (.ref r), .val (.ref r)] [(.ref r), (.ref r)]))
      refine Go.by (fun t9_ q9_ => acmpW W832 (g := (mkF m 143 #[.val (.int p0), .val (.int p1), .val (.int p2), .val (.int p3), .val (.int p4), .val (.int (4 : Int32)), .val (.int u0), .val (.int u1), .val (.int u2), .val (.int u3), .val (.ref ba), .val (.ref r), .val (.ref r)] [(.ref r), (.ref r)])) rfl rfl rfl (pc0 := 143) (pc' := 148) (same := true) rfl (hb hby at_143) rfl (decide_eq_true rfl) (by decide) (by decide) q9_) ?_
      show Go p e below s Z [] _ _ _ (T831.setTop (mkF m 148 #[.val (.int p0), .val (.int p1), .val (.int p2), .val (.int p3), .val (.int p4), .val (.int (4 : Int32)), .val (.int u0), .val (.int u1), .val (.int u2), .val (.int u3), .val (.ref ba), .val (.ref r), .val (.ref r)] []))
      refine Go.by (fun t9_ q9_ => XS.aload W832.here W832.hx rfl (hb hby at_148) rfl rfl q9_) ?_
      show Go p e below s Z [] _ _ _ (T831.setTop (mkF m 150 #[.val (.int p0), .val (.int p1), .val (.int p2), .val (.int p3), .val (.int p4), .val (.int (4 : Int32)), .val (.int u0), .val (.int u1), .val (.int u2), .val (.int u3), .val (.ref ba), .val (.ref r), .val (.ref r)] [(.ref r)]))
      refine W832.strLen (k_len hw) (wd2 hw) (wd47 hw) (wd48 hw) (wd50 hw) (wd49 hw) (S_r.ext X9) (by simp) (SG1.ext W832.old) hG (by decide) (Wt := 0) (by decide) (by rw [hml]; rfl) (Nat.le_of_eq rfl) (by decide) (by decide) (hb hby at_150) ?_
      intro T834 W835
      show Go p e below s Z [] _ _ _ (T834.setTop (mkF m 153 #[.val (.int p0), .val (.int p1), .val (.int p2), .val (.int p3), .val (.int p4), .val (.int (4 : Int32)), .val (.int u0), .val (.int u1), .val (.int u2), .val (.int u3), .val (.ref ba), .val (.ref r), .val (.ref r)] [(.int (4 : Int32))]))
      refine Go.by (fun t9_ q9_ => XS.iload W835.here W835.hx rfl (hb hby at_153) rfl q9_) ?_
      show Go p e below s Z [] _ _ _ (T834.setTop (mkF m 155 #[.val (.int p0), .val (.int p1), .val (.int p2), .val (.int p3), .val (.int p4), .val (.int (4 : Int32)), .val (.int u0), .val (.int u1), .val (.int u2), .val (.int u3), .val (.ref ba), .val (.ref r), .val (.ref r)] [(.int (4 : Int32)), (.int (4 : Int32))]))
      refine Go.by (fun t9_ q9_ => XS.icmpYes W835.here W835.hx rfl (pc0 := 155) (pc' := 160) rfl (hb hby at_155) rfl (teq rfl).1 (by decide) (by decide) q9_) ?_
      show Go p e below s Z [] _ _ _ (T834.setTop (mkF m 160 #[.val (.int p0), .val (.int p1), .val (.int p2), .val (.int p3), .val (.int p4), .val (.int (4 : Int32)), .val (.int u0), .val (.int u1), .val (.int u2), .val (.int u3), .val (.ref ba), .val (.ref r), .val (.ref r)] []))
      refine Go.by (fun t9_ q9_ => XS.aload W835.here W835.hx rfl (hb hby at_160) rfl rfl (XS.iconst W835.here W835.hx rfl (hb hby at_162) q9_)) ?_
      show Go p e below s Z [] _ _ _ (T834.setTop (mkF m 163 #[.val (.int p0), .val (.int p1), .val (.int p2), .val (.int p3), .val (.int p4), .val (.int (4 : Int32)), .val (.int u0), .val (.int u1), .val (.int u2), .val (.int u3), .val (.ref ba), .val (.ref r), .val (.ref r)] [(.int (0 : Int32)), (.ref r)]))
      refine W835.callVp (y := (⟨"java/lang/String", "charAt", "(I)C"⟩ : MethodName)) (z := (⟨"java/lang/String", "charAt", "(I)C"⟩ : MethodName)) (wd57 hw) (wd58 hw) (nf_sel rfl (wd60 hw)) (wd60 hw) (wd59 hw) (wd3 hw) (wd61 hw) (by decide) (E1.ext X9) (a := r) (c_at4_0 l Z a0 hw hEL h833 W835.old r ta k_ta _ _ _ u0 G1 fm SG1 hG SAD SHI SLO SFM rfm (E1.ext X9) (FV1.ext X9) (FC1.ext X9) (A1.ext X9) rfl rfl (StrChars.pair_says r_u0.1 r_u0.2) r_u0) all0 (by decide) (by decide) (k' := 6) (n' := 60) rfl rfl (by decide) (by decide) (by rw [hml]; rfl) (argsL := [(.int (0 : Int32))]) (rest := []) (lenOf pd_16 rfl) rfl rfl (Wt := 0) (Nat.le_of_eq rfl) (hb hby at_163) ?_
      intro T836 W837
      show Go p e below s Z [] _ _ _ (T836.setTop (mkF m 166 #[.val (.int p0), .val (.int p1), .val (.int p2), .val (.int p3), .val (.int p4), .val (.int (4 : Int32)), .val (.int u0), .val (.int u1), .val (.int u2), .val (.int u3), .val (.ref ba), .val (.ref r), .val (.ref r)] [(.int u0)]))
      refine Go.by (fun t9_ q9_ => XS.iload W837.here W837.hx rfl (hb hby at_166) rfl q9_) ?_
      show Go p e below s Z [] _ _ _ (T836.setTop (mkF m 168 #[.val (.int p0), .val (.int p1), .val (.int p2), .val (.int p3), .val (.int p4), .val (.int (4 : Int32)), .val (.int u0), .val (.int u1), .val (.int u2), .val (.int u3), .val (.ref ba), .val (.ref r), .val (.ref r)] [(.int u0), (.int u0)]))
      refine Go.by (fun t9_ q9_ => XS.icmpYes W837.here W837.hx rfl (pc0 := 168) (pc' := 173) rfl (hb hby at_168) rfl (teq rfl).1 (by decide) (by decide) q9_) ?_
      show Go p e below s Z [] _ _ _ (T836.setTop (mkF m 173 #[.val (.int p0), .val (.int p1), .val (.int p2), .val (.int p3), .val (.int p4), .val (.int (4 : Int32)), .val (.int u0), .val (.int u1), .val (.int u2), .val (.int u3), .val (.ref ba), .val (.ref r), .val (.ref r)] []))
      refine Go.by (fun t9_ q9_ => XS.aload W837.here W837.hx rfl (hb hby at_173) rfl rfl (XS.iload W837.here W837.hx rfl (hb hby at_175) rfl (XS.iconst W837.here W837.hx rfl (hb hby at_177) (XS.isub W837.here W837.hx rfl (hb hby at_178) rfl q9_)))) ?_
      show Go p e below s Z [] _ _ _ (T836.setTop (mkF m 179 #[.val (.int p0), .val (.int p1), .val (.int p2), .val (.int p3), .val (.int p4), .val (.int (4 : Int32)), .val (.int u0), .val (.int u1), .val (.int u2), .val (.int u3), .val (.ref ba), .val (.ref r), .val (.ref r)] [(.int ((4 : Int32) - (1 : Int32))), (.ref r)]))
      show Go p e below s Z [] _ _ _ (T836.setTop (mkF m 179 #[.val (.int p0), .val (.int p1), .val (.int p2), .val (.int p3), .val (.int p4), .val (.int (4 : Int32)), .val (.int u0), .val (.int u1), .val (.int u2), .val (.int u3), .val (.ref ba), .val (.ref r), .val (.ref r)] [(.int (3 : Int32)), (.ref r)]))
      refine W837.callVp (y := (⟨"java/lang/String", "charAt", "(I)C"⟩ : MethodName)) (z := (⟨"java/lang/String", "charAt", "(I)C"⟩ : MethodName)) (wd57 hw) (wd58 hw) (nf_sel rfl (wd60 hw)) (wd60 hw) (wd59 hw) (wd3 hw) (wd61 hw) (by decide) (E1.ext X9) (a := r) (c_at4_3 l Z a0 hw hEL h833 W837.old r ta k_ta _ _ _ u3 G1 fm SG1 hG SAD SHI SLO SFM rfm (E1.ext X9) (FV1.ext X9) (FC1.ext X9) (A1.ext X9) rfl rfl (StrChars.pair_says r_u3.1 r_u3.2) r_u3) all0 (by decide) (by decide) (k' := 6) (n' := 60) rfl rfl (by decide) (by decide) (by rw [hml]; rfl) (argsL := [(.int (3 : Int32))]) (rest := []) (lenOf pd_16 rfl) rfl rfl (Wt := 0) (Nat.le_of_eq rfl) (hb hby at_179) ?_
      intro T838 W839
      show Go p e below s Z [] _ _ _ (T838.setTop (mkF m 182 #[.val (.int p0), .val (.int p1), .val (.int p2), .val (.int p3), .val (.int p4), .val (.int (4 : Int32)), .val (.int u0), .val (.int u1), .val (.int u2), .val (.int u3), .val (.ref ba), .val (.ref r), .val (.ref r)] [(.int u3)]))
      refine Go.by (fun t9_ q9_ => XS.aload W839.here W839.hx rfl (hb hby at_182) rfl rfl (XS.iload W839.here W839.hx rfl (hb hby at_184) rfl (XS.iconst W839.here W839.hx rfl (hb hby at_186) (XS.isub W839.here W839.hx rfl (hb hby at_187) rfl q9_)))) ?_
      show Go p e below s Z [] _ _ _ (T838.setTop (mkF m 188 #[.val (.int p0), .val (.int p1), .val (.int p2), .val (.int p3), .val (.int p4), .val (.int (4 : Int32)), .val (.int u0), .val (.int u1), .val (.int u2), .val (.int u3), .val (.ref ba), .val (.ref r), .val (.ref r)] [(.int ((4 : Int32) - (1 : Int32))), (.ref ba), (.int u3)]))
      show Go p e below s Z [] _ _ _ (T838.setTop (mkF m 188 #[.val (.int p0), .val (.int p1), .val (.int p2), .val (.int p3), .val (.int p4), .val (.int (4 : Int32)), .val (.int u0), .val (.int u1), .val (.int u2), .val (.int u3), .val (.ref ba), .val (.ref r), .val (.ref r)] [(.int (3 : Int32)), (.ref ba), (.int u3)]))
      have X840 : Ext h820 h830 := (Ext.keep' E827 K1 (allS (Nat.le_of_eq g_r) all0))
      have X841 : Ext h820 h833 := (Ext.trans' X840 X9)
      refine W839.cald (V823_ba.ext X841) ⟨by decide, by decide⟩ (v := (.int u3)) rfl (hb hby at_188) ?_
      show Go p e below s Z [] _ _ _ (T838.setTop (mkF m 189 #[.val (.int p0), .val (.int p1), .val (.int p2), .val (.int p3), .val (.int p4), .val (.int (4 : Int32)), .val (.int u0), .val (.int u1), .val (.int u2), .val (.int u3), .val (.ref ba), .val (.ref r), .val (.ref r)] [(.int u3), (.int u3)]))
      refine Go.by (fun t9_ q9_ => XS.icmpNo W839.here W839.hx rfl (hb hby at_189) rfl (teq rfl).2 q9_) ?_
      show Go p e below s Z [] _ _ _ (T838.setTop (mkF m 192 #[.val (.int p0), .val (.int p1), .val (.int p2), .val (.int p3), .val (.int p4), .val (.int (4 : Int32)), .val (.int u0), .val (.int u1), .val (.int u2), .val (.int u3), .val (.ref ba), .val (.ref r), .val (.ref r)] []))
      refine Go.by (fun t9_ q9_ => XS.iconst W839.here W839.hx rfl (hb hby at_192) (XS.goto W839.here W839.hx rfl (pc0 := 193) (pc' := 197) rfl (hb hby at_193) (by decide) (by decide) q9_)) ?_
      show Go p e below s Z [] _ _ _ (T838.setTop (mkF m 197 #[.val (.int p0), .val (.int p1), .val (.int p2), .val (.int p3), .val (.int p4), .val (.int (4 : Int32)), .val (.int u0), .val (.int u1), .val (.int u2), .val (.int u3), .val (.ref ba), .val (.ref r), .val (.ref r)] [(.int (1 : Int32))]))
      exact W839.retN (z' := (1 : Int32)) (by decide) (by decide) hret (by simp) (hb hby at_197) rfl rfl
    · have hlat : ∀ c ∈ [u0, u1, u2, u3], ¬ (255 : Int32) < c := by intro c hc h5; simp only [List.mem_cons, List.not_mem_nil, or_false] at hc; exact hbig (by rcases hc with rfl | rfl | rfl | rfl <;> simp [h5])
      refine W826.strV (cs := [u0, u1, u2, u3]) (k_words hw) (wd2 hw) (wd4 hw) (wd5 hw) A_r F_value_r F_coder_r (V823_ba.ext E827) (SG1.ext W826.old) hG (q := 4) rfl rfl (by decide) (by decide) (by intro c hc; refine ⟨?_, hlat c hc⟩; simp only [List.mem_cons, List.not_mem_nil, or_false] at hc; rcases hc with rfl | rfl | rfl | rfl; exact r_u0.1; exact r_u1.1; exact r_u2.1; exact r_u3.1) z_r (List.mem_of_getElem? (i := 0) rfl) (by decide) (Wt := 1) (by decide) (k' := 3) (n' := 12) rfl rfl (by decide) (by decide) (by rw [hml]; rfl) (Nat.le_of_eq rfl) (hb hby at_127) ?_
      intro T842 h843 W844 K845 S_r
      show Go p e below s Z [] _ _ _ (T842.setTop (mkF m 130 #[.val (.int p0), .val (.int p1), .val (.int p2), .val (.int p3), .val (.int p4), .val (.int (4 : Int32)), .val (.int u0), .val (.int u1), .val (.int u2), .val (.int u3), .val (.ref ba), .unset, .unset] [(.ref r)]))
      obtain ⟨ta, k_ta, cd, N2, vs, s1, s2, s3, s4, s5, s6⟩ := id S_r
      obtain ⟨rfl, rfl, rfl⟩ : cd = 0 ∧ N2 = (4 : Int32) ∧ vs = _ := by rcases s5 with ⟨q1, q2, q3, -⟩ | ⟨-, -, -, c, hc, h5⟩; exact ⟨q1, q2, q3⟩; exact absurd h5 (hlat c hc)
      refine Go.by (fun t9_ q9_ => XS.astore W844.here W844.hx rfl (hb hby at_130) rfl rfl (l' := #[.val (.int p0), .val (.int p1), .val (.int p2), .val (.int p3), .val (.int p4), .val (.int (4 : Int32)), .val (.int u0), .val (.int u1), .val (.int u2), .val (.int u3), .val (.ref ba), .val (.ref r), .unset]) rfl (XS.aload W844.here W844.hx rfl (hb hby at_132) rfl rfl q9_)) ?_
      show Go p e below s Z [] _ _ _ (T842.setTop (mkF m 134 #[.val (.int p0), .val (.int p1), .val (.int p2), .val (.int p3), .val (.int p4), .val (.int (4 : Int32)), .val (.int u0), .val (.int u1), .val (.int u2), .val (.int u3), .val (.ref ba), .val (.ref r), .unset] [(.ref r)]))
      refine W844.callS (y := (⟨"com/example/admit/admit/model/AclEntry", "requirePrivilegeName", "(Ljava/lang/String;)Ljava/lang/String;"⟩ : MethodName)) (wd30 hw) (wd31 hw) (wd32 hw) (wd33 hw) (by decide) (c_rpn l Z a0 hw hEL h843 W844.old r ta k_ta _ _ (Str.exa S_r) s2 s4 (by decide)) all0 (by decide) (by decide) (k' := 5) (n' := 52) rfl rfl (by decide) (by decide) (by rw [hml]; rfl) (argsL := [(.ref r)]) (rest := []) (lenOf pd_15 rfl) rfl rfl (Wt := 0) (Nat.le_of_eq rfl) (hb hby at_134) ?_
      intro v_ T846 h848 W847 hq_
      obtain ⟨rfl, X9⟩ := hq_
      show Go p e below s Z [] _ _ _ (T846.setTop (mkF m 137 #[.val (.int p0), .val (.int p1), .val (.int p2), .val (.int p3), .val (.int p4), .val (.int (4 : Int32)), .val (.int u0), .val (.int u1), .val (.int u2), .val (.int u3), .val (.ref ba), .val (.ref r), .unset] [(.ref r)]))
      refine Go.by (fun t9_ q9_ => XS.astore W847.here W847.hx rfl (hb hby at_137) rfl rfl (l' := #[.val (.int p0), .val (.int p1), .val (.int p2), .val (.int p3), .val (.int p4), .val (.int (4 : Int32)), .val (.int u0), .val (.int u1), .val (.int u2), .val (.int u3), .val (.ref ba), .val (.ref r), .val (.ref r)]) rfl (XS.aload W847.here W847.hx rfl (hb hby at_139) rfl rfl (XS.aload W847.here W847.hx rfl (hb hby at_141) rfl rfl q9_))) ?_
      show Go p e below s Z [] _ _ _ (T846.setTop (mkF m 143 #[.val (.int p0), .val (.int p1), .val (.int p2), .val (.int p3), .val (.int p4), .val (.int (4 : Int32)), .val (.int u0), .val (.int u1), .val (.int u2), .val (.int u3), .val (.ref ba), .val (.ref r), .val (.ref r)] [(.ref r), (.ref r)]))
      refine Go.by (fun t9_ q9_ => acmpW W847 (g := (mkF m 143 #[.val (.int p0), .val (.int p1), .val (.int p2), .val (.int p3), .val (.int p4), .val (.int (4 : Int32)), .val (.int u0), .val (.int u1), .val (.int u2), .val (.int u3), .val (.ref ba), .val (.ref r), .val (.ref r)] [(.ref r), (.ref r)])) rfl rfl rfl (pc0 := 143) (pc' := 148) (same := true) rfl (hb hby at_143) rfl (decide_eq_true rfl) (by decide) (by decide) q9_) ?_
      show Go p e below s Z [] _ _ _ (T846.setTop (mkF m 148 #[.val (.int p0), .val (.int p1), .val (.int p2), .val (.int p3), .val (.int p4), .val (.int (4 : Int32)), .val (.int u0), .val (.int u1), .val (.int u2), .val (.int u3), .val (.ref ba), .val (.ref r), .val (.ref r)] []))
      refine Go.by (fun t9_ q9_ => XS.aload W847.here W847.hx rfl (hb hby at_148) rfl rfl q9_) ?_
      show Go p e below s Z [] _ _ _ (T846.setTop (mkF m 150 #[.val (.int p0), .val (.int p1), .val (.int p2), .val (.int p3), .val (.int p4), .val (.int (4 : Int32)), .val (.int u0), .val (.int u1), .val (.int u2), .val (.int u3), .val (.ref ba), .val (.ref r), .val (.ref r)] [(.ref r)]))
      refine W847.strLen (k_len hw) (wd2 hw) (wd47 hw) (wd48 hw) (wd50 hw) (wd49 hw) (S_r.ext X9) (by simp) (SG1.ext W847.old) hG (by decide) (Wt := 0) (by decide) (by rw [hml]; rfl) (Nat.le_of_eq rfl) (by decide) (by decide) (hb hby at_150) ?_
      intro T849 W850
      show Go p e below s Z [] _ _ _ (T849.setTop (mkF m 153 #[.val (.int p0), .val (.int p1), .val (.int p2), .val (.int p3), .val (.int p4), .val (.int (4 : Int32)), .val (.int u0), .val (.int u1), .val (.int u2), .val (.int u3), .val (.ref ba), .val (.ref r), .val (.ref r)] [(.int (4 : Int32))]))
      refine Go.by (fun t9_ q9_ => XS.iload W850.here W850.hx rfl (hb hby at_153) rfl q9_) ?_
      show Go p e below s Z [] _ _ _ (T849.setTop (mkF m 155 #[.val (.int p0), .val (.int p1), .val (.int p2), .val (.int p3), .val (.int p4), .val (.int (4 : Int32)), .val (.int u0), .val (.int u1), .val (.int u2), .val (.int u3), .val (.ref ba), .val (.ref r), .val (.ref r)] [(.int (4 : Int32)), (.int (4 : Int32))]))
      refine Go.by (fun t9_ q9_ => XS.icmpYes W850.here W850.hx rfl (pc0 := 155) (pc' := 160) rfl (hb hby at_155) rfl (teq rfl).1 (by decide) (by decide) q9_) ?_
      show Go p e below s Z [] _ _ _ (T849.setTop (mkF m 160 #[.val (.int p0), .val (.int p1), .val (.int p2), .val (.int p3), .val (.int p4), .val (.int (4 : Int32)), .val (.int u0), .val (.int u1), .val (.int u2), .val (.int u3), .val (.ref ba), .val (.ref r), .val (.ref r)] []))
      refine Go.by (fun t9_ q9_ => XS.aload W850.here W850.hx rfl (hb hby at_160) rfl rfl (XS.iconst W850.here W850.hx rfl (hb hby at_162) q9_)) ?_
      show Go p e below s Z [] _ _ _ (T849.setTop (mkF m 163 #[.val (.int p0), .val (.int p1), .val (.int p2), .val (.int p3), .val (.int p4), .val (.int (4 : Int32)), .val (.int u0), .val (.int u1), .val (.int u2), .val (.int u3), .val (.ref ba), .val (.ref r), .val (.ref r)] [(.int (0 : Int32)), (.ref r)]))
      refine W850.strCh (k_ch hw) (wd2 hw) (wd57 hw) (wd58 hw) (wd60 hw) (wd59 hw) (S_r.ext X9) hlat (by simp) (SG1.ext W850.old) hG (SFM.ext W850.old) rfm (i := 0) (by simp) rfl (by decide) (Wt := 0) (by decide) (by rw [hml]; rfl) (Nat.le_of_eq rfl) (by decide) (by decide) (hb hby at_163) ?_
      intro T851 W852
      show Go p e below s Z [] _ _ _ (T851.setTop (mkF m 166 #[.val (.int p0), .val (.int p1), .val (.int p2), .val (.int p3), .val (.int p4), .val (.int (4 : Int32)), .val (.int u0), .val (.int u1), .val (.int u2), .val (.int u3), .val (.ref ba), .val (.ref r), .val (.ref r)] [(.int u0)]))
      refine Go.by (fun t9_ q9_ => XS.iload W852.here W852.hx rfl (hb hby at_166) rfl q9_) ?_
      show Go p e below s Z [] _ _ _ (T851.setTop (mkF m 168 #[.val (.int p0), .val (.int p1), .val (.int p2), .val (.int p3), .val (.int p4), .val (.int (4 : Int32)), .val (.int u0), .val (.int u1), .val (.int u2), .val (.int u3), .val (.ref ba), .val (.ref r), .val (.ref r)] [(.int u0), (.int u0)]))
      refine Go.by (fun t9_ q9_ => XS.icmpYes W852.here W852.hx rfl (pc0 := 168) (pc' := 173) rfl (hb hby at_168) rfl (teq rfl).1 (by decide) (by decide) q9_) ?_
      show Go p e below s Z [] _ _ _ (T851.setTop (mkF m 173 #[.val (.int p0), .val (.int p1), .val (.int p2), .val (.int p3), .val (.int p4), .val (.int (4 : Int32)), .val (.int u0), .val (.int u1), .val (.int u2), .val (.int u3), .val (.ref ba), .val (.ref r), .val (.ref r)] []))
      refine Go.by (fun t9_ q9_ => XS.aload W852.here W852.hx rfl (hb hby at_173) rfl rfl (XS.iload W852.here W852.hx rfl (hb hby at_175) rfl (XS.iconst W852.here W852.hx rfl (hb hby at_177) (XS.isub W852.here W852.hx rfl (hb hby at_178) rfl q9_)))) ?_
      show Go p e below s Z [] _ _ _ (T851.setTop (mkF m 179 #[.val (.int p0), .val (.int p1), .val (.int p2), .val (.int p3), .val (.int p4), .val (.int (4 : Int32)), .val (.int u0), .val (.int u1), .val (.int u2), .val (.int u3), .val (.ref ba), .val (.ref r), .val (.ref r)] [(.int ((4 : Int32) - (1 : Int32))), (.ref r)]))
      show Go p e below s Z [] _ _ _ (T851.setTop (mkF m 179 #[.val (.int p0), .val (.int p1), .val (.int p2), .val (.int p3), .val (.int p4), .val (.int (4 : Int32)), .val (.int u0), .val (.int u1), .val (.int u2), .val (.int u3), .val (.ref ba), .val (.ref r), .val (.ref r)] [(.int (3 : Int32)), (.ref r)]))
      refine W852.strCh (k_ch hw) (wd2 hw) (wd57 hw) (wd58 hw) (wd60 hw) (wd59 hw) (S_r.ext X9) hlat (by simp) (SG1.ext W852.old) hG (SFM.ext W852.old) rfm (i := 3) (by simp) rfl (by decide) (Wt := 0) (by decide) (by rw [hml]; rfl) (Nat.le_of_eq rfl) (by decide) (by decide) (hb hby at_179) ?_
      intro T853 W854
      show Go p e below s Z [] _ _ _ (T853.setTop (mkF m 182 #[.val (.int p0), .val (.int p1), .val (.int p2), .val (.int p3), .val (.int p4), .val (.int (4 : Int32)), .val (.int u0), .val (.int u1), .val (.int u2), .val (.int u3), .val (.ref ba), .val (.ref r), .val (.ref r)] [(.int u3)]))
      refine Go.by (fun t9_ q9_ => XS.aload W854.here W854.hx rfl (hb hby at_182) rfl rfl (XS.iload W854.here W854.hx rfl (hb hby at_184) rfl (XS.iconst W854.here W854.hx rfl (hb hby at_186) (XS.isub W854.here W854.hx rfl (hb hby at_187) rfl q9_)))) ?_
      show Go p e below s Z [] _ _ _ (T853.setTop (mkF m 188 #[.val (.int p0), .val (.int p1), .val (.int p2), .val (.int p3), .val (.int p4), .val (.int (4 : Int32)), .val (.int u0), .val (.int u1), .val (.int u2), .val (.int u3), .val (.ref ba), .val (.ref r), .val (.ref r)] [(.int ((4 : Int32) - (1 : Int32))), (.ref ba), (.int u3)]))
      show Go p e below s Z [] _ _ _ (T853.setTop (mkF m 188 #[.val (.int p0), .val (.int p1), .val (.int p2), .val (.int p3), .val (.int p4), .val (.int (4 : Int32)), .val (.int u0), .val (.int u1), .val (.int u2), .val (.int u3), .val (.ref ba), .val (.ref r), .val (.ref r)] [(.int (3 : Int32)), (.ref ba), (.int u3)]))
      have X855 : Ext h820 h843 := (Ext.keep' E827 K845 (allS (Nat.le_of_eq g_r) all0))
      have X856 : Ext h820 h848 := (Ext.trans' X855 X9)
      refine W854.cald (V823_ba.ext X856) ⟨by decide, by decide⟩ (v := (.int u3)) rfl (hb hby at_188) ?_
      show Go p e below s Z [] _ _ _ (T853.setTop (mkF m 189 #[.val (.int p0), .val (.int p1), .val (.int p2), .val (.int p3), .val (.int p4), .val (.int (4 : Int32)), .val (.int u0), .val (.int u1), .val (.int u2), .val (.int u3), .val (.ref ba), .val (.ref r), .val (.ref r)] [(.int u3), (.int u3)]))
      refine Go.by (fun t9_ q9_ => XS.icmpNo W854.here W854.hx rfl (hb hby at_189) rfl (teq rfl).2 q9_) ?_
      show Go p e below s Z [] _ _ _ (T853.setTop (mkF m 192 #[.val (.int p0), .val (.int p1), .val (.int p2), .val (.int p3), .val (.int p4), .val (.int (4 : Int32)), .val (.int u0), .val (.int u1), .val (.int u2), .val (.int u3), .val (.ref ba), .val (.ref r), .val (.ref r)] []))
      refine Go.by (fun t9_ q9_ => XS.iconst W854.here W854.hx rfl (hb hby at_192) (XS.goto W854.here W854.hx rfl (pc0 := 193) (pc' := 197) rfl (hb hby at_193) (by decide) (by decide) q9_)) ?_
      show Go p e below s Z [] _ _ _ (T853.setTop (mkF m 197 #[.val (.int p0), .val (.int p1), .val (.int p2), .val (.int p3), .val (.int p4), .val (.int (4 : Int32)), .val (.int u0), .val (.int u1), .val (.int u2), .val (.int u3), .val (.ref ba), .val (.ref r), .val (.ref r)] [(.int (1 : Int32))]))
      exact W854.retN (z' := (1 : Int32)) (by decide) (by decide) hret (by simp) (hb hby at_197) rfl rfl
set_option maxRecDepth 65536 in
set_option maxHeartbeats 40000000 in
theorem comes_1 {Post : Tables → Env → Array Value → State → Outcome → State → Prop} (hpost : ∀ tb e args s v u, (limb_1_1.after args s (.returned v) u = true ∧ limb_1_2.after args s (.returned v) u = true ∧ True) → FramedW s (.returned v) u (Jvm.fieldLocs frame_1_writes args s ++ Jvm.arrayLocs frame_1_arrays args s ++ Jvm.staticLocs frame_1_statics s) 24 1152 → Post tb e args s (.returned v) u) :
    ArmFor flags0 classFile x code maxLocals ret World_1 tables_1 room_1 Calls_1 rest_1 Pre_1 Post := by
  intro l hfl _ _ p e ha hc hk s m args below hf hA hF happ hP
  obtain ⟨hcalls, hrest, hpre⟩ := hP
  obtain ⟨-, -, -, hnamed, -, -, -, hat⟩ := (Spec.applies_iff hf).mp happ
  obtain ⟨hg, hn⟩ := and_e (Cond.before_iff.mp (show (Jvm.Cond.and given_1 narrow_1).before args s = true from hpre))
  obtain ⟨h1, hg0⟩ := and_e hg
  obtain ⟨ga0, hg1⟩ := and_e hg0
  obtain ⟨ga1, hg2⟩ := and_e hg1
  obtain ⟨ga2, hg3⟩ := and_e hg2
  obtain ⟨ga3, hg4⟩ := and_e hg3
  have ga4 := hg4
  obtain ⟨w0, w1, w2, w3, w4, rfl⟩ : ∃ w0 w1 w2 w3 w4 : Value, args = #[w0, w1, w2, w3, w4] := by
    have hs : args.size = 5 := by simpa [Cond.value, given_1] using h1
    obtain ⟨L⟩ := args
    match L, hs with
    | [w0, w1, w2, w3, w4], _ => exact ⟨w0, w1, w2, w3, w4, rfl⟩
  have hw := fun d (hd : d ∈ tables_1) => atoms_spec (ws := Jvm.Cond.code x code maxLocals ret :: tables_1) hat d (List.mem_cons_of_mem _ hd)
  obtain ⟨hsets, hown0⟩ := atoms_of _ (rest_1_c_eq ▸ (show rest_1_c.before _ s = true from hrest))
  have hfit : Fit s := fun {y c} hc i hi => by
    obtain ⟨ha, rfl⟩ := Array.getElem?_eq_some_iff.mp hc
    have q := List.all_eq_true.mp ((Array.all_eq_true_iff_forall_mem.mp hF) _ (Array.getElem_mem ha)) i (List.mem_range.mpr hi)
    simpa [Array.getElem?_eq_getElem hi] using q
  obtain ⟨p0, ea0⟩ := is_v ga0
  obtain rfl : w0 = (.int p0) := Option.some.inj ea0
  obtain ⟨p1, ea1⟩ := is_v ga1
  obtain rfl : w1 = (.int p1) := Option.some.inj ea1
  obtain ⟨p2, ea2⟩ := is_v ga2
  obtain rfl : w2 = (.int p2) := Option.some.inj ea2
  obtain ⟨p3, ea3⟩ := is_v ga3
  obtain rfl : w3 = (.int p3) := Option.some.inj ea3
  obtain ⟨p4, ea4⟩ := is_v ga4
  obtain rfl : w4 = (.int p4) := Option.some.inj ea4
  have hcw := hsets _ (List.mem_of_getElem? (i := 2) rfl)
  have nG := not_v (Cond.before_iff.mp hcw)
  obtain ⟨G1, eG⟩ := is_v (Cond.before_iff.mp (hsets _ (List.mem_of_getElem? (i := 1) rfl)))
  have SG1 : Sta s s.heap "java/lang/String" "COMPACT_STRINGS" "Z" (.int G1) := Sta.start eG (Or.inl (hsets _ (List.mem_of_getElem? (i := 0) rfl)))
  have hG : ¬ (G1 = (0 : Int32)) := gotF (Cond.eq_ints eG (Term.int_eval (0))) nG
  obtain ⟨fm, eF, rfm⟩ := isR_v (Cond.before_iff.mp (hsets _ (List.mem_of_getElem? (i := 8) rfl)))
  have SFM : Sta s s.heap "jdk/internal/util/Preconditions" "SIOOBE_FORMATTER" "Ljava/util/function/BiFunction;" fm := Sta.start eF (Or.inl (hsets _ (List.mem_of_getElem? (i := 7) rfl)))
  have eSAD := Cond.eq_int (hsets _ (List.mem_of_getElem? (i := 12) rfl)) rfl
  have SAD : Sta s s.heap "java/lang/StringUTF16" "$assertionsDisabled" "Z" (.int 1) := Sta.start eSAD (Or.inl (hsets _ (List.mem_of_getElem? (i := 11) rfl)))
  have eSHI := Cond.eq_int (hsets _ (List.mem_of_getElem? (i := 15) rfl)) rfl
  have SHI : Sta s s.heap "java/lang/StringUTF16" "HI_BYTE_SHIFT" "I" (.int 0) := Sta.start eSHI (Or.inl (hsets _ (List.mem_of_getElem? (i := 14) rfl)))
  have eSLO := Cond.eq_int (hsets _ (List.mem_of_getElem? (i := 18) rfl)) rfl
  have SLO : Sta s s.heap "java/lang/StringUTF16" "LO_BYTE_SHIFT" "I" (.int 8) := Sta.start eSLO (Or.inl (hsets _ (List.mem_of_getElem? (i := 17) rfl)))
  have hEL : EW s #[(.int p0), (.int p1), (.int p2), (.int p3), (.int p4)] [] := EW.nil
  have hCH : CHv s [] s.vm s.heap := fun p hp => by cases hp
  obtain ⟨n, o, h1, h2, h3, _, L, rfl, ⟨rfl, N⟩, -, hq⟩ := c_law l s _ hw hEL s.heap (Ext.refl' _) p0 p1 p2 p3 p4 G1 fm SAD SHI SLO SG1 hG SFM rfm p e ha hc hk s m _ below hf ((Spec.applies_iff_loose hf).mp happ).1 ⟨rfl, State.Warmed39.refl s, rfl, hCH, all0⟩ trivial
  exact ⟨n, _, h1, h2, h3, hpost _ _ _ _ _ _ ⟨Cond.after_iff.mpr rfl, Cond.after_iff.mpr (eq_i res_at (Term.int_eval (1)) rfl), trivial⟩ ⟨hq.1, hq.2.1, hq.2.2.1, (hq.2.2.2.sift fun y hy => Or.inr (N y hy)).mono (by decide) (by decide)⟩⟩
theorem main_1_1 : Claimed_1_1 := comes_1 fun _ _ _ _ _ _ h hF => ⟨h.1, hF⟩
theorem main_1_2 : Claimed_1_2 := comes_1 fun _ _ _ _ _ _ h hF => ⟨h.2.1, hF⟩
end Jvm.Pilot.@@N@@
namespace Jvm.Pilot.@@N@@
open Jvm Jvm.ClassFile Sem Op Lib Jvm.Free Jvm.Stand Jvm.Pilot.@@N@@.Jvm.D
/-! MADE BY PROGRAM (witnessworld.py) out of the Statement's table words and the real class files: 21 classes; the members and pool entries that the words name. The judged class is class 1, her method 1. -/
namespace start1
open Jvm.ClassFile
def u (s : String) : CpInfo := .utf8 (stringToUtf16 s)
/-- a pool by its gaps: so many unusable entries, then the entry; so many at the end -/
def gap : Nat → List CpInfo → List CpInfo
  | 0, r => r
  | n + 1, r => .unusable :: gap n r
def poolList (es : List (Nat × CpInfo)) (last : Nat) : List CpInfo := es.foldr (fun e r => gap e.1 (e.2 :: r)) (gap last [])
def pool (es : List (Nat × CpInfo)) (last : Nat) : Array CpInfo := ⟨poolList es last⟩
def fileOf (pool : Array CpInfo) (this : Nat) (attrs : Array Attribute := #[]) (ms : Array MethodInfo := #[]) (fl : Nat := 33) (sup : Nat := 0) (ifs : Array Nat := #[]) (fds : Array FieldInfo := #[]) : ClassFile where
  minorVersion := 0
  majorVersion := 65
  constantPool := pool
  accessFlags := fl
  thisClass := this
  superClass := sup
  interfaces := ifs
  fields := fds
  methods := ms
  attributes := attrs
def plain (name : String) (sup : Option ClassId) : Class where
  name := name
  kind := .ordinary
  loader := none
  accessFlags := 33
  super := sup
  interfaces := #[]
  cf := none
  fields := #[]
  methods := #[]
  instanceTypes := #[]
  staticTypes := #[]
  resolved := #[]
  callSites := []
  init := .initialized
  statics := none
  mirror := none

def pool0 : Array CpInfo := pool [(5, u "<init>"), (0, u "()V"), (1, .class_ 10), (1, u "java/lang/Object")] 113

def k0c0 : Code := { maxStack := 0, maxLocals := 1, code := object_method_1_code, exceptionTable := #[], attributes := #[] }
def k0m0 : Method := { name := "<init>", desc := "()V", sig := { parameters := [], returnType := none }, accessFlags := 1, code := some k0c0 }
/-- java/lang/Object -/
def k0 : Class := { plain "java/lang/Object" none with
  accessFlags := 33
  interfaces := #[]
  cf := some (fileOf pool0 8 #[] #[{ accessFlags := 1, nameIndex := 5, descriptorIndex := 6, attributes := #[] }] 33 0 #[] #[])
  fields := #[]
  methods := #[k0m0]
  instanceTypes := #[]
  staticTypes := #[]
  resolved := Array.replicate 124 none
  statics := none }

def pool1 : Array CpInfo := pool [(2, .class_ 4), (1, u "java/lang/Object"), (0, u "<init>"), (0, u "()V"), (0, .class_ 8), (0, u "java/lang/String"), (0, .methodref 7 10), (0, .nameAndType 5 11), (0, u "([C)V"), (0, .methodref 13 14), (0, .class_ 15), (0, .nameAndType 16 17), (0, u "com/example/admit/admit/model/AclEntry"), (0, u "requirePrivilegeName"), (0, u "(Ljava/lang/String;)Ljava/lang/String;"), (0, .methodref 7 19), (0, .nameAndType 20 21), (0, u "length"), (0, u "()I"), (0, .methodref 7 23), (0, .nameAndType 24 25), (0, u "charAt"), (0, u "(I)C"), (0, .class_ 27), (0, u "com/example/admit/admit/model/AclEntryRequirePrivilegeNamePinLaw"), (2, u "law"), (0, u "(IIIII)Z")] 5

def k1m0 : Method := { name := "<init>", desc := "()V", sig := { parameters := [], returnType := none }, accessFlags := 1, code := none }
def k1c1 : Code := { maxStack := 4, maxLocals := 13, code := code, exceptionTable := #[], attributes := #[] }
def k1m1 : Method := { name := "law", desc := "(IIIII)Z", sig := { parameters := [.int, .int, .int, .int, .int], returnType := some .boolean }, accessFlags := 9, code := some k1c1 }
/-- com/example/admit/admit/model/AclEntryRequirePrivilegeNamePinLaw -/
def k1 : Class := { plain "com/example/admit/admit/model/AclEntryRequirePrivilegeNamePinLaw" (some 0) with
  accessFlags := 49
  interfaces := #[]
  cf := some (fileOf pool1 26 #[] #[{ accessFlags := 1, nameIndex := 5, descriptorIndex := 6, attributes := #[] }, { accessFlags := 9, nameIndex := 30, descriptorIndex := 31, attributes := #[] }] 49 2 #[] #[])
  fields := #[]
  methods := #[k1m0, k1m1]
  instanceTypes := #[]
  staticTypes := #[]
  resolved := Array.replicate 37 none
  statics := none }

def pool2 : Array CpInfo := pool [(1, .class_ 2), (0, u "java/io/Serializable"), (0, .class_ 4), (0, u "java/lang/Object")] 2

/-- java/io/Serializable -/
def k2 : Class := { plain "java/io/Serializable" (some 0) with
  accessFlags := 1537
  interfaces := #[]
  cf := some (fileOf pool2 1 #[] #[] 1537 3 #[] #[])
  fields := #[]
  methods := #[]
  instanceTypes := #[]
  staticTypes := #[]
  resolved := Array.replicate 7 none
  statics := none }

def pool3 : Array CpInfo := pool [(1, .class_ 2), (0, u "java/lang/Comparable"), (0, .class_ 4), (0, u "java/lang/Object")] 7

/-- java/lang/Comparable -/
def k3 : Class := { plain "java/lang/Comparable" (some 0) with
  accessFlags := 1537
  interfaces := #[]
  cf := some (fileOf pool3 1 #[] #[] 1537 3 #[] #[])
  fields := #[]
  methods := #[]
  instanceTypes := #[]
  staticTypes := #[]
  resolved := Array.replicate 12 none
  statics := none }

def pool4 : Array CpInfo := pool [(2, .class_ 4), (1, u "java/lang/CharSequence"), (42, .class_ 48), (0, u "java/lang/CharSequence$1CodePointIterator"), (10, .class_ 60), (0, u "java/lang/CharSequence$1CharIterator"), (5, .class_ 67), (0, u "java/lang/Object")] 63

/-- java/lang/CharSequence -/
def k4 : Class := { plain "java/lang/CharSequence" (some 0) with
  accessFlags := 1537
  interfaces := #[]
  cf := some (fileOf pool4 2 #[.nestMembers #[47, 59]] #[] 1537 66 #[] #[])
  fields := #[]
  methods := #[]
  instanceTypes := #[]
  staticTypes := #[]
  resolved := Array.replicate 131 none
  statics := none }

def pool5 : Array CpInfo := pool [(1, .class_ 2), (0, u "java/lang/constant/Constable"), (0, .class_ 4), (0, u "java/lang/Object")] 6

/-- java/lang/constant/Constable -/
def k5 : Class := { plain "java/lang/constant/Constable" (some 0) with
  accessFlags := 1537
  interfaces := #[]
  cf := some (fileOf pool5 1 #[] #[] 1537 3 #[] #[])
  fields := #[]
  methods := #[]
  instanceTypes := #[]
  staticTypes := #[]
  resolved := Array.replicate 11 none
  statics := none }

def pool6 : Array CpInfo := pool [(1, .class_ 2), (0, u "java/lang/constant/ConstantDesc"), (0, .class_ 4), (0, u "java/lang/Object")] 32

/-- java/lang/constant/ConstantDesc -/
def k6 : Class := { plain "java/lang/constant/ConstantDesc" (some 0) with
  accessFlags := 1537
  interfaces := #[]
  cf := some (fileOf pool6 1 #[] #[] 1537 3 #[] #[])
  fields := #[]
  methods := #[]
  instanceTypes := #[]
  staticTypes := #[]
  resolved := Array.replicate 37 none
  statics := none }

def pool7 : Array CpInfo := pool [(1, .methodref 2 3), (0, .class_ 4), (0, .nameAndType 5 6), (0, u "java/lang/Object"), (0, u "<init>"), (0, u "()V"), (2, .fieldref 10 11), (0, .class_ 12), (0, .nameAndType 13 14), (0, u "java/lang/String"), (0, u "value"), (0, u "[B"), (0, .fieldref 10 16), (0, .nameAndType 17 18), (0, u "coder"), (0, u "B"), (2, u "hash"), (0, u "I"), (2, u "hashIsZero"), (0, u "Z"), (0, .methodref 10 28), (0, .nameAndType 5 29), (0, u "([CIILjava/lang/Void;)V"), (8, .fieldref 10 39), (0, .nameAndType 40 26), (0, u "COMPACT_STRINGS"), (1, .class_ 44), (1, u "java/lang/StringUTF16"), (0, u "compress"), (1, .methodref 42 48), (0, .nameAndType 49 50), (0, u "coderFromArrayLen"), (0, u "([BI)B"), (56, .class_ 109), (1, u "java/lang/StringLatin1"), (32, u "()Z"), (34, .methodref 42 178), (0, .nameAndType 45 179), (0, u "([CII)[B"), (154, u "()I"), (0, .methodref 10 336), (0, .nameAndType 17 337), (0, u "()B"), (25, u "([BI)C"), (27, u "(II)V"), (35, u "(I)C"), (64, .methodref 10 493), (0, .nameAndType 494 142), (0, u "isLatin1"), (0, .methodref 107 496), (0, .nameAndType 497 363), (0, u "charAt"), (0, .methodref 42 496), (2, u "checkIndex"), (5, u "length"), (67, .class_ 576), (0, u "java/lang/CharSequence"), (22, u "CASE_INSENSITIVE_ORDER"), (0, u "Ljava/util/Comparator;"), (91, u "isEmpty"), (317, u "([C)V"), (42, .fieldref 1054 1055), (0, .class_ 1056), (0, .nameAndType 1057 1058), (0, u "jdk/internal/util/Preconditions"), (0, u "SIOOBE_FORMATTER"), (0, u "Ljava/util/function/BiFunction;"), (0, .methodref 1054 1060), (0, .nameAndType 501 1061), (0, u "(IILjava/util/function/BiFunction;)I"), (39, u "serialPersistentFields"), (0, u "[Ljava/io/ObjectStreamField;"), (0, .class_ 1104), (0, u "java/lang/String$CaseInsensitiveComparator"), (1, .class_ 1107), (0, u "java/io/Serializable"), (0, .class_ 1109), (0, u "java/lang/Comparable"), (0, .class_ 1111), (0, u "java/lang/constant/Constable"), (0, .class_ 1113), (0, u "java/lang/constant/ConstantDesc"), (2, u "serialVersionUID"), (0, u "J"), (3, u "REPL"), (0, u "C"), (2, u "LATIN1"), (1, u "UTF16")] 323

def k7m0 : Method := { name := "<init>", desc := "()V", sig := { parameters := [], returnType := none }, accessFlags := 1, code := none }
def k7c1 : Code := { maxStack := 5, maxLocals := 2, code := jdk_42_method_3_code, exceptionTable := #[], attributes := #[] }
def k7m1 : Method := { name := "<init>", desc := "([C)V", sig := { parameters := [(.array .char)], returnType := none }, accessFlags := 1, code := some k7c1 }
def k7c2 : Code := { maxStack := 2, maxLocals := 1, code := jdk_42_method_54_code, exceptionTable := #[], attributes := #[] }
def k7m2 : Method := { name := "length", desc := "()I", sig := { parameters := [], returnType := some .int }, accessFlags := 1, code := some k7c2 }
def k7c3 : Code := { maxStack := 1, maxLocals := 1, code := jdk_42_method_55_code, exceptionTable := #[], attributes := #[] }
def k7m3 : Method := { name := "isEmpty", desc := "()Z", sig := { parameters := [], returnType := some .boolean }, accessFlags := 1, code := some k7c3 }
def k7c4 : Code := { maxStack := 2, maxLocals := 2, code := jdk_42_method_56_code, exceptionTable := #[], attributes := #[] }
def k7m4 : Method := { name := "charAt", desc := "(I)C", sig := { parameters := [.int], returnType := some .char }, accessFlags := 1, code := some k7c4 }
def k7c5 : Code := { maxStack := 4, maxLocals := 6, code := jdk_42_method_149_code, exceptionTable := #[], attributes := #[] }
def k7m5 : Method := { name := "<init>", desc := "([CIILjava/lang/Void;)V", sig := { parameters := [(.array .char), .int, .int, (.object "java/lang/Void")], returnType := none }, accessFlags := 2, code := some k7c5 }
def k7c6 : Code := { maxStack := 1, maxLocals := 1, code := jdk_42_method_152_code, exceptionTable := #[], attributes := #[] }
def k7m6 : Method := { name := "coder", desc := "()B", sig := { parameters := [], returnType := some .byte }, accessFlags := 0, code := some k7c6 }
def k7c7 : Code := { maxStack := 1, maxLocals := 1, code := jdk_42_method_154_code, exceptionTable := #[], attributes := #[] }
def k7m7 : Method := { name := "isLatin1", desc := "()Z", sig := { parameters := [], returnType := some .boolean }, accessFlags := 0, code := some k7c7 }
def k7c8 : Code := { maxStack := 3, maxLocals := 2, code := jdk_42_method_155_code, exceptionTable := #[], attributes := #[] }
def k7m8 : Method := { name := "checkIndex", desc := "(II)V", sig := { parameters := [.int, .int], returnType := none }, accessFlags := 8, code := some k7c8 }
/-- java/lang/String -/
def k7 : Class := { plain "java/lang/String" (some 0) with
  accessFlags := 49
  interfaces := #[2, 3, 4, 5, 6]
  cf := some (fileOf pool7 10 #[.nestMembers #[1103]] #[{ accessFlags := 1, nameIndex := 5, descriptorIndex := 6, attributes := #[] }, { accessFlags := 1, nameIndex := 5, descriptorIndex := 1010, attributes := #[] }, { accessFlags := 1, nameIndex := 507, descriptorIndex := 334, attributes := #[] }, { accessFlags := 1, nameIndex := 692, descriptorIndex := 142, attributes := #[] }, { accessFlags := 1, nameIndex := 497, descriptorIndex := 427, attributes := #[] }, { accessFlags := 2, nameIndex := 5, descriptorIndex := 29, attributes := #[] }, { accessFlags := 0, nameIndex := 17, descriptorIndex := 337, attributes := #[] }, { accessFlags := 0, nameIndex := 494, descriptorIndex := 142, attributes := #[] }, { accessFlags := 8, nameIndex := 501, descriptorIndex := 391, attributes := #[] }] 49 2 #[1106, 1108, 575, 1110, 1112] #[{ accessFlags := 18, nameIndex := 13, descriptorIndex := 14, attributes := #[] }, { accessFlags := 18, nameIndex := 17, descriptorIndex := 18, attributes := #[] }, { accessFlags := 2, nameIndex := 21, descriptorIndex := 22, attributes := #[] }, { accessFlags := 2, nameIndex := 25, descriptorIndex := 26, attributes := #[] }, { accessFlags := 26, nameIndex := 1116, descriptorIndex := 1117, attributes := #[] }, { accessFlags := 24, nameIndex := 40, descriptorIndex := 26, attributes := #[] }, { accessFlags := 26, nameIndex := 1101, descriptorIndex := 1102, attributes := #[] }, { accessFlags := 26, nameIndex := 1121, descriptorIndex := 1122, attributes := #[] }, { accessFlags := 25, nameIndex := 599, descriptorIndex := 600, attributes := #[] }, { accessFlags := 24, nameIndex := 1125, descriptorIndex := 18, attributes := #[] }, { accessFlags := 24, nameIndex := 1127, descriptorIndex := 18, attributes := #[] }])
  fields := #[{ name := "value", type := (.array .byte), accessFlags := 18, slot := 0, constantValue := 0 }, { name := "coder", type := .byte, accessFlags := 18, slot := 1, constantValue := 0 }, { name := "hash", type := .int, accessFlags := 2, slot := 2, constantValue := 0 }, { name := "hashIsZero", type := .boolean, accessFlags := 2, slot := 3, constantValue := 0 }, { name := "serialVersionUID", type := .long, accessFlags := 26, slot := 0, constantValue := 0 }, { name := "COMPACT_STRINGS", type := .boolean, accessFlags := 24, slot := 1, constantValue := 0 }, { name := "serialPersistentFields", type := (.array (.object "java/io/ObjectStreamField")), accessFlags := 26, slot := 2, constantValue := 0 }, { name := "REPL", type := .char, accessFlags := 26, slot := 3, constantValue := 0 }, { name := "CASE_INSENSITIVE_ORDER", type := (.object "java/util/Comparator"), accessFlags := 25, slot := 4, constantValue := 0 }, { name := "LATIN1", type := .byte, accessFlags := 24, slot := 5, constantValue := 0 }, { name := "UTF16", type := .byte, accessFlags := 24, slot := 6, constantValue := 0 }]
  methods := #[k7m0, k7m1, k7m2, k7m3, k7m4, k7m5, k7m6, k7m7, k7m8]
  instanceTypes := #[(.array .byte), .byte, .int, .boolean]
  staticTypes := #[.long, .boolean, (.array (.object "java/io/ObjectStreamField")), .char, (.object "java/util/Comparator"), .byte, .byte]
  resolved := Array.replicate 1451 none
  statics := some 0 }

def pool8 : Array CpInfo := pool [(3, .class_ 4), (0, u "java/lang/String"), (1, .class_ 8), (1, u "java/lang/Object"), (0, u "<init>"), (0, u "()V"), (0, .methodref 12 13), (0, .class_ 14), (0, .nameAndType 15 16), (0, u "java/lang/StringUTF16"), (0, u "newBytesLength"), (0, u "(I)I"), (3, .integer 1073741823), (23, .fieldref 12 45), (0, .nameAndType 46 47), (0, u "$assertionsDisabled"), (0, u "Z"), (0, .methodref 12 49), (0, .nameAndType 50 51), (0, u "length"), (0, u "([B)I"), (7, .fieldref 12 60), (0, .nameAndType 61 62), (0, u "HI_BYTE_SHIFT"), (0, u "I"), (0, .fieldref 12 64), (0, .nameAndType 65 62), (0, u "LO_BYTE_SHIFT"), (1, .methodref 12 68), (0, .nameAndType 69 70), (0, u "checkIndex"), (0, u "(I[B)V"), (0, .methodref 12 72), (0, .nameAndType 73 74), (0, u "getChar"), (0, u "([BI)C"), (32, .methodref 12 108), (0, .nameAndType 109 110), (0, u "newBytesFor"), (0, u "(I)[B"), (0, .methodref 12 112), (0, .nameAndType 113 114), (0, u "putChar"), (0, u "([BII)V"), (0, .methodref 12 116), (0, .nameAndType 117 118), (0, u "compress"), (0, u "([CI[BII)I"), (0, .methodref 12 120), (0, .nameAndType 121 122), (0, u "toBytes"), (0, u "([CII)[B"), (138, u "coderFromArrayLen"), (0, u "([BI)B"), (106, .class_ 371), (1, u "java/lang/StringUTF16$LinesSpliterator"), (20, u "charAt"), (21, .methodref 3 415), (0, .nameAndType 69 416), (0, u "(II)V"), (13, u "MAX_LENGTH"), (196, .class_ 628), (0, u "java/lang/StringUTF16$CodePointsSpliterator"), (0, .class_ 630), (0, u "java/lang/StringUTF16$CharsSpliterator")] 4

def k8m0 : Method := { name := "<init>", desc := "()V", sig := { parameters := [], returnType := none }, accessFlags := 0, code := none }
def k8c1 : Code := { maxStack := 1, maxLocals := 1, code := jdk_52_method_2_code, exceptionTable := #[], attributes := #[] }
def k8m1 : Method := { name := "newBytesFor", desc := "(I)[B", sig := { parameters := [.int], returnType := some (.array .byte) }, accessFlags := 9, code := some k8c1 }
def k8c2 : Code := { maxStack := 4, maxLocals := 1, code := jdk_52_method_3_code, exceptionTable := #[], attributes := #[] }
def k8m2 : Method := { name := "newBytesLength", desc := "(I)I", sig := { parameters := [.int], returnType := some .int }, accessFlags := 9, code := some k8c2 }
def k8c3 : Code := { maxStack := 4, maxLocals := 3, code := jdk_52_method_4_code, exceptionTable := #[], attributes := #[] }
def k8m3 : Method := { name := "putChar", desc := "([BII)V", sig := { parameters := [(.array .byte), .int, .int], returnType := none }, accessFlags := 8, code := some k8c3 }
def k8c4 : Code := { maxStack := 3, maxLocals := 2, code := jdk_52_method_5_code, exceptionTable := #[], attributes := #[] }
def k8m4 : Method := { name := "getChar", desc := "([BI)C", sig := { parameters := [(.array .byte), .int], returnType := some .char }, accessFlags := 8, code := some k8c4 }
def k8c5 : Code := { maxStack := 2, maxLocals := 1, code := jdk_52_method_6_code, exceptionTable := #[], attributes := #[] }
def k8m5 : Method := { name := "length", desc := "([B)I", sig := { parameters := [(.array .byte)], returnType := some .int }, accessFlags := 9, code := some k8c5 }
def k8c6 : Code := { maxStack := 4, maxLocals := 5, code := jdk_52_method_14_code, exceptionTable := #[], attributes := #[] }
def k8m6 : Method := { name := "toBytes", desc := "([CII)[B", sig := { parameters := [(.array .char), .int, .int], returnType := some (.array .byte) }, accessFlags := 9, code := some k8c6 }
def k8c7 : Code := { maxStack := 2, maxLocals := 2, code := jdk_52_method_15_code, exceptionTable := #[], attributes := #[] }
def k8m7 : Method := { name := "coderFromArrayLen", desc := "([BI)B", sig := { parameters := [(.array .byte), .int], returnType := some .byte }, accessFlags := 8, code := some k8c7 }
def k8c8 : Code := { maxStack := 5, maxLocals := 6, code := jdk_52_method_16_code, exceptionTable := #[], attributes := #[] }
def k8m8 : Method := { name := "compress", desc := "([CII)[B", sig := { parameters := [(.array .char), .int, .int], returnType := some (.array .byte) }, accessFlags := 9, code := some k8c8 }
def k8c9 : Code := { maxStack := 3, maxLocals := 7, code := jdk_52_method_21_code, exceptionTable := #[], attributes := #[] }
def k8m9 : Method := { name := "compress", desc := "([CI[BII)I", sig := { parameters := [(.array .char), .int, (.array .byte), .int, .int], returnType := some .int }, accessFlags := 9, code := some k8c9 }
def k8c10 : Code := { maxStack := 2, maxLocals := 2, code := jdk_52_method_83_code, exceptionTable := #[], attributes := #[] }
def k8m10 : Method := { name := "charAt", desc := "([BI)C", sig := { parameters := [(.array .byte), .int], returnType := some .char }, accessFlags := 9, code := some k8c10 }
def k8c11 : Code := { maxStack := 2, maxLocals := 2, code := jdk_52_method_91_code, exceptionTable := #[], attributes := #[] }
def k8m11 : Method := { name := "checkIndex", desc := "(I[B)V", sig := { parameters := [.int, (.array .byte)], returnType := none }, accessFlags := 9, code := some k8c11 }
/-- java/lang/StringUTF16 -/
def k8 : Class := { plain "java/lang/StringUTF16" (some 0) with
  accessFlags := 48
  interfaces := #[]
  cf := some (fileOf pool8 12 #[.nestMembers #[627, 629, 369]] #[{ accessFlags := 0, nameIndex := 9, descriptorIndex := 10, attributes := #[] }, { accessFlags := 9, nameIndex := 109, descriptorIndex := 110, attributes := #[] }, { accessFlags := 9, nameIndex := 15, descriptorIndex := 16, attributes := #[] }, { accessFlags := 8, nameIndex := 113, descriptorIndex := 114, attributes := #[] }, { accessFlags := 8, nameIndex := 73, descriptorIndex := 74, attributes := #[] }, { accessFlags := 9, nameIndex := 50, descriptorIndex := 51, attributes := #[] }, { accessFlags := 9, nameIndex := 121, descriptorIndex := 122, attributes := #[] }, { accessFlags := 8, nameIndex := 261, descriptorIndex := 262, attributes := #[] }, { accessFlags := 9, nameIndex := 117, descriptorIndex := 122, attributes := #[] }, { accessFlags := 9, nameIndex := 117, descriptorIndex := 118, attributes := #[] }, { accessFlags := 9, nameIndex := 392, descriptorIndex := 74, attributes := #[] }, { accessFlags := 9, nameIndex := 69, descriptorIndex := 70, attributes := #[] }] 48 6 #[] #[{ accessFlags := 26, nameIndex := 61, descriptorIndex := 62, attributes := #[] }, { accessFlags := 26, nameIndex := 65, descriptorIndex := 62, attributes := #[] }, { accessFlags := 24, nameIndex := 430, descriptorIndex := 62, attributes := #[] }, { accessFlags := 4120, nameIndex := 46, descriptorIndex := 47, attributes := #[] }])
  fields := #[{ name := "HI_BYTE_SHIFT", type := .int, accessFlags := 26, slot := 0, constantValue := 0 }, { name := "LO_BYTE_SHIFT", type := .int, accessFlags := 26, slot := 1, constantValue := 0 }, { name := "MAX_LENGTH", type := .int, accessFlags := 24, slot := 2, constantValue := 0 }, { name := "$assertionsDisabled", type := .boolean, accessFlags := 4120, slot := 3, constantValue := 0 }]
  methods := #[k8m0, k8m1, k8m2, k8m3, k8m4, k8m5, k8m6, k8m7, k8m8, k8m9, k8m10, k8m11]
  instanceTypes := #[]
  staticTypes := #[.int, .int, .int, .boolean]
  resolved := Array.replicate 635 none
  statics := some 1 }

def pool9 : Array CpInfo := pool [(2, .class_ 4), (1, u "java/lang/Object"), (3, u "principal"), (0, .methodref 10 11), (0, .class_ 12), (0, .nameAndType 13 14), (0, u "java/util/Objects"), (0, u "requireNonNull"), (0, u "(Ljava/lang/Object;Ljava/lang/String;)Ljava/lang/Object;"), (3, .class_ 20), (1, u "com/example/admit/admit/model/AclEntry"), (0, u "Lcom/example/admit/admit/model/Principal;"), (6, u "privileges"), (0, u "Ljava/util/Set;"), (1, u "modifier"), (0, .class_ 33), (0, u "com/example/admit/admit/model/AclEntry$Modifier"), (2, u "Lcom/example/admit/admit/model/AclEntry$Modifier;"), (1, u "scope"), (0, .class_ 40), (0, u "com/example/admit/admit/model/AclEntry$Scope"), (2, u "Lcom/example/admit/admit/model/AclEntry$Scope;"), (2, .nameAndType 48 49), (1, u "isEmpty"), (0, u "()Z"), (27, .class_ 78), (0, u "java/lang/String"), (2, u "requirePrivilegeName"), (0, u "(Ljava/lang/String;)Ljava/lang/String;"), (2, u "READ_ONLY"), (10, .string 97), (0, u "privilege"), (0, .methodref 77 46), (52, .class_ 152), (0, u "java/lang/Comparable"), (0, u "READ"), (0, u "Ljava/lang/String;")] 27

def k9c0 : Code := { maxStack := 3, maxLocals := 1, code := prog_16_method_3_code, exceptionTable := #[], attributes := #[] }
def k9m0 : Method := { name := "requirePrivilegeName", desc := "(Ljava/lang/String;)Ljava/lang/String;", sig := { parameters := [(.object "java/lang/String")], returnType := some (.object "java/lang/String") }, accessFlags := 9, code := some k9c0 }
/-- com/example/admit/admit/model/AclEntry -/
def k9 : Class := { plain "com/example/admit/admit/model/AclEntry" (some 0) with
  accessFlags := 33
  interfaces := #[3]
  cf := some (fileOf pool9 18 #[.nestMembers #[39, 32]] #[{ accessFlags := 9, nameIndex := 81, descriptorIndex := 82, attributes := #[] }] 33 2 #[151] #[{ accessFlags := 25, nameIndex := 153, descriptorIndex := 154, attributes := #[] }, { accessFlags := 26, nameIndex := 85, descriptorIndex := 29, attributes := #[] }, { accessFlags := 18, nameIndex := 8, descriptorIndex := 21, attributes := #[] }, { accessFlags := 18, nameIndex := 28, descriptorIndex := 29, attributes := #[] }, { accessFlags := 18, nameIndex := 31, descriptorIndex := 36, attributes := #[] }, { accessFlags := 18, nameIndex := 38, descriptorIndex := 43, attributes := #[] }])
  fields := #[{ name := "READ", type := (.object "java/lang/String"), accessFlags := 25, slot := 0, constantValue := 0 }, { name := "READ_ONLY", type := (.object "java/util/Set"), accessFlags := 26, slot := 1, constantValue := 0 }, { name := "principal", type := (.object "com/example/admit/admit/model/Principal"), accessFlags := 18, slot := 0, constantValue := 0 }, { name := "privileges", type := (.object "java/util/Set"), accessFlags := 18, slot := 1, constantValue := 0 }, { name := "modifier", type := (.object "com/example/admit/admit/model/AclEntry$Modifier"), accessFlags := 18, slot := 2, constantValue := 0 }, { name := "scope", type := (.object "com/example/admit/admit/model/AclEntry$Scope"), accessFlags := 18, slot := 3, constantValue := 0 }]
  methods := #[k9m0]
  instanceTypes := #[(.object "com/example/admit/admit/model/Principal"), (.object "java/util/Set"), (.object "com/example/admit/admit/model/AclEntry$Modifier"), (.object "com/example/admit/admit/model/AclEntry$Scope")]
  staticTypes := #[(.object "java/lang/String"), (.object "java/util/Set")]
  resolved := Array.replicate 182 none
  statics := none }

def pool10 : Array CpInfo := pool [(2, .class_ 4), (1, u "java/lang/Object"), (0, u "<init>"), (0, u "()V"), (35, .class_ 44), (1, u "java/util/Objects"), (0, u "requireNonNull"), (48, u "(Ljava/lang/Object;Ljava/lang/String;)Ljava/lang/Object;")] 89

def k10m0 : Method := { name := "<init>", desc := "()V", sig := { parameters := [], returnType := none }, accessFlags := 2, code := none }
def k10c1 : Code := { maxStack := 3, maxLocals := 2, code := jdk_31_method_11_code, exceptionTable := #[], attributes := #[] }
def k10m1 : Method := { name := "requireNonNull", desc := "(Ljava/lang/Object;Ljava/lang/String;)Ljava/lang/Object;", sig := { parameters := [(.object "java/lang/Object"), (.object "java/lang/String")], returnType := some (.object "java/lang/Object") }, accessFlags := 9, code := some k10c1 }
/-- java/util/Objects -/
def k10 : Class := { plain "java/util/Objects" (some 0) with
  accessFlags := 49
  interfaces := #[]
  cf := some (fileOf pool10 42 #[] #[{ accessFlags := 2, nameIndex := 5, descriptorIndex := 6, attributes := #[] }, { accessFlags := 9, nameIndex := 45, descriptorIndex := 94, attributes := #[] }] 49 2 #[] #[])
  fields := #[]
  methods := #[k10m0, k10m1]
  instanceTypes := #[]
  staticTypes := #[]
  resolved := Array.replicate 184 none
  statics := none }

def pool11 : Array CpInfo := pool [(1, .class_ 2), (0, u "java/lang/String"), (1, .class_ 6), (1, u "java/lang/Object"), (0, u "<init>"), (0, u "()V"), (0, .methodref 1 10), (0, .nameAndType 11 12), (0, u "checkIndex"), (0, u "(II)V"), (1, .class_ 16), (1, u "java/lang/StringLatin1"), (36, u "([BI)C"), (67, u "$assertionsDisabled"), (0, u "Z"), (98, .class_ 223), (1, u "java/lang/StringLatin1$LinesSpliterator"), (28, u "charAt"), (137, .class_ 391), (0, u "java/lang/StringLatin1$CharsSpliterator")] 3

def k11m0 : Method := { name := "<init>", desc := "()V", sig := { parameters := [], returnType := none }, accessFlags := 0, code := none }
def k11c1 : Code := { maxStack := 2, maxLocals := 2, code := jdk_43_method_2_code, exceptionTable := #[], attributes := #[] }
def k11m1 : Method := { name := "charAt", desc := "([BI)C", sig := { parameters := [(.array .byte), .int], returnType := some .char }, accessFlags := 9, code := some k11c1 }
/-- java/lang/StringLatin1 -/
def k11 : Class := { plain "java/lang/StringLatin1" (some 0) with
  accessFlags := 48
  interfaces := #[]
  cf := some (fileOf pool11 14 #[.nestMembers #[390, 221]] #[{ accessFlags := 0, nameIndex := 7, descriptorIndex := 8, attributes := #[] }, { accessFlags := 9, nameIndex := 252, descriptorIndex := 53, attributes := #[] }] 48 4 #[] #[{ accessFlags := 4120, nameIndex := 121, descriptorIndex := 122, attributes := #[] }])
  fields := #[{ name := "$assertionsDisabled", type := .boolean, accessFlags := 4120, slot := 0, constantValue := 0 }]
  methods := #[k11m0, k11m1]
  instanceTypes := #[]
  staticTypes := #[.boolean]
  resolved := Array.replicate 395 none
  statics := none }

def pool12 : Array CpInfo := pool [(2, .class_ 4), (1, u "java/lang/Object"), (0, u "<init>"), (0, u "()V"), (17, .class_ 26), (1, u "jdk/internal/util/Preconditions"), (6, u "checkIndex"), (21, .class_ 56), (0, u "jdk/internal/util/Preconditions$4"), (57, .class_ 115), (0, u "jdk/internal/util/Preconditions$1"), (7, u "SIOOBE_FORMATTER"), (0, u "Ljava/util/function/BiFunction;"), (0, .class_ 126), (0, u "jdk/internal/util/Preconditions$2"), (3, u "AIOOBE_FORMATTER"), (0, .class_ 132), (0, u "jdk/internal/util/Preconditions$3"), (3, u "IOOBE_FORMATTER"), (41, u "(IILjava/util/function/BiFunction;)I")] 15

def k12m0 : Method := { name := "<init>", desc := "()V", sig := { parameters := [], returnType := none }, accessFlags := 1, code := none }
def k12c1 : Code := { maxStack := 3, maxLocals := 3, code := jdk_41_method_11_code, exceptionTable := #[], attributes := #[] }
def k12m1 : Method := { name := "checkIndex", desc := "(IILjava/util/function/BiFunction;)I", sig := { parameters := [.int, .int, (.object "java/util/function/BiFunction")], returnType := some .int }, accessFlags := 9, code := some k12c1 }
/-- jdk/internal/util/Preconditions -/
def k12 : Class := { plain "jdk/internal/util/Preconditions" (some 0) with
  accessFlags := 33
  interfaces := #[]
  cf := some (fileOf pool12 24 #[.nestMembers #[55, 131, 125, 114]] #[{ accessFlags := 1, nameIndex := 5, descriptorIndex := 6, attributes := #[] }, { accessFlags := 9, nameIndex := 33, descriptorIndex := 178, attributes := #[] }] 33 2 #[] #[{ accessFlags := 25, nameIndex := 123, descriptorIndex := 124, attributes := #[] }, { accessFlags := 25, nameIndex := 130, descriptorIndex := 124, attributes := #[] }, { accessFlags := 25, nameIndex := 136, descriptorIndex := 124, attributes := #[] }])
  fields := #[{ name := "SIOOBE_FORMATTER", type := (.object "java/util/function/BiFunction"), accessFlags := 25, slot := 0, constantValue := 0 }, { name := "AIOOBE_FORMATTER", type := (.object "java/util/function/BiFunction"), accessFlags := 25, slot := 1, constantValue := 0 }, { name := "IOOBE_FORMATTER", type := (.object "java/util/function/BiFunction"), accessFlags := 25, slot := 2, constantValue := 0 }]
  methods := #[k12m0, k12m1]
  instanceTypes := #[]
  staticTypes := #[(.object "java/util/function/BiFunction"), (.object "java/util/function/BiFunction"), (.object "java/util/function/BiFunction")]
  resolved := Array.replicate 194 none
  statics := some 2 }

def pool13 : Array CpInfo := pool [(9, u "<init>"), (6, .class_ 18), (1, u "java/lang/Object"), (0, u "()V"), (1, .class_ 23), (1, u "jdk/internal/util/ArraysSupport"), (0, u "LOG2_ARRAY_LONG_INDEX_SCALE"), (0, u "I"), (2, u "U"), (0, u "Ljdk/internal/misc/Unsafe;"), (8, u "BIG_ENDIAN"), (0, u "Z"), (8, u "LOG2_BYTE_BIT_SIZE"), (4, u "LOG2_ARRAY_INT_INDEX_SCALE"), (54, u "JLA"), (0, u "Ljdk/internal/access/JavaLangAccess;"), (11, u "LOG2_ARRAY_BOOLEAN_INDEX_SCALE"), (9, u "LOG2_ARRAY_BYTE_INDEX_SCALE"), (5, u "LOG2_ARRAY_CHAR_INDEX_SCALE"), (5, u "LOG2_ARRAY_SHORT_INDEX_SCALE"), (18, u "LOG2_ARRAY_FLOAT_INDEX_SCALE"), (24, u "LOG2_ARRAY_DOUBLE_INDEX_SCALE"), (89, u "T_BOOLEAN"), (2, u "T_CHAR"), (1, u "T_FLOAT"), (1, u "T_DOUBLE"), (1, u "T_BYTE"), (1, u "T_SHORT"), (1, u "T_INT"), (1, u "T_LONG"), (1, u "SOFT_MAX_ARRAY_LENGTH")] 83

def k13m0 : Method := { name := "<init>", desc := "()V", sig := { parameters := [], returnType := none }, accessFlags := 2, code := none }
/-- jdk/internal/util/ArraysSupport -/
def k13 : Class := { plain "jdk/internal/util/ArraysSupport" (some 0) with
  accessFlags := 33
  interfaces := #[]
  cf := some (fileOf pool13 21 #[] #[{ accessFlags := 2, nameIndex := 9, descriptorIndex := 19, attributes := #[] }] 33 16 #[] #[{ accessFlags := 24, nameIndex := 28, descriptorIndex := 29, attributes := #[] }, { accessFlags := 26, nameIndex := 38, descriptorIndex := 39, attributes := #[] }, { accessFlags := 25, nameIndex := 121, descriptorIndex := 25, attributes := #[] }, { accessFlags := 25, nameIndex := 131, descriptorIndex := 25, attributes := #[] }, { accessFlags := 25, nameIndex := 137, descriptorIndex := 25, attributes := #[] }, { accessFlags := 25, nameIndex := 143, descriptorIndex := 25, attributes := #[] }, { accessFlags := 25, nameIndex := 53, descriptorIndex := 25, attributes := #[] }, { accessFlags := 25, nameIndex := 24, descriptorIndex := 25, attributes := #[] }, { accessFlags := 25, nameIndex := 162, descriptorIndex := 25, attributes := #[] }, { accessFlags := 25, nameIndex := 187, descriptorIndex := 25, attributes := #[] }, { accessFlags := 26, nameIndex := 48, descriptorIndex := 25, attributes := #[] }, { accessFlags := 25, nameIndex := 277, descriptorIndex := 25, attributes := #[] }, { accessFlags := 25, nameIndex := 280, descriptorIndex := 25, attributes := #[] }, { accessFlags := 25, nameIndex := 282, descriptorIndex := 25, attributes := #[] }, { accessFlags := 25, nameIndex := 284, descriptorIndex := 25, attributes := #[] }, { accessFlags := 25, nameIndex := 286, descriptorIndex := 25, attributes := #[] }, { accessFlags := 25, nameIndex := 288, descriptorIndex := 25, attributes := #[] }, { accessFlags := 25, nameIndex := 290, descriptorIndex := 25, attributes := #[] }, { accessFlags := 25, nameIndex := 292, descriptorIndex := 25, attributes := #[] }, { accessFlags := 26, nameIndex := 108, descriptorIndex := 109, attributes := #[] }, { accessFlags := 25, nameIndex := 294, descriptorIndex := 25, attributes := #[] }])
  fields := #[{ name := "U", type := (.object "jdk/internal/misc/Unsafe"), accessFlags := 24, slot := 0, constantValue := 0 }, { name := "BIG_ENDIAN", type := .boolean, accessFlags := 26, slot := 1, constantValue := 0 }, { name := "LOG2_ARRAY_BOOLEAN_INDEX_SCALE", type := .int, accessFlags := 25, slot := 2, constantValue := 0 }, { name := "LOG2_ARRAY_BYTE_INDEX_SCALE", type := .int, accessFlags := 25, slot := 3, constantValue := 0 }, { name := "LOG2_ARRAY_CHAR_INDEX_SCALE", type := .int, accessFlags := 25, slot := 4, constantValue := 0 }, { name := "LOG2_ARRAY_SHORT_INDEX_SCALE", type := .int, accessFlags := 25, slot := 5, constantValue := 0 }, { name := "LOG2_ARRAY_INT_INDEX_SCALE", type := .int, accessFlags := 25, slot := 6, constantValue := 0 }, { name := "LOG2_ARRAY_LONG_INDEX_SCALE", type := .int, accessFlags := 25, slot := 7, constantValue := 0 }, { name := "LOG2_ARRAY_FLOAT_INDEX_SCALE", type := .int, accessFlags := 25, slot := 8, constantValue := 0 }, { name := "LOG2_ARRAY_DOUBLE_INDEX_SCALE", type := .int, accessFlags := 25, slot := 9, constantValue := 0 }, { name := "LOG2_BYTE_BIT_SIZE", type := .int, accessFlags := 26, slot := 10, constantValue := 0 }, { name := "T_BOOLEAN", type := .int, accessFlags := 25, slot := 11, constantValue := 0 }, { name := "T_CHAR", type := .int, accessFlags := 25, slot := 12, constantValue := 0 }, { name := "T_FLOAT", type := .int, accessFlags := 25, slot := 13, constantValue := 0 }, { name := "T_DOUBLE", type := .int, accessFlags := 25, slot := 14, constantValue := 0 }, { name := "T_BYTE", type := .int, accessFlags := 25, slot := 15, constantValue := 0 }, { name := "T_SHORT", type := .int, accessFlags := 25, slot := 16, constantValue := 0 }, { name := "T_INT", type := .int, accessFlags := 25, slot := 17, constantValue := 0 }, { name := "T_LONG", type := .int, accessFlags := 25, slot := 18, constantValue := 0 }, { name := "JLA", type := (.object "jdk/internal/access/JavaLangAccess"), accessFlags := 26, slot := 19, constantValue := 0 }, { name := "SOFT_MAX_ARRAY_LENGTH", type := .int, accessFlags := 25, slot := 20, constantValue := 0 }]
  methods := #[k13m0]
  instanceTypes := #[]
  staticTypes := #[(.object "jdk/internal/misc/Unsafe"), .boolean, .int, .int, .int, .int, .int, .int, .int, .int, .int, .int, .int, .int, .int, .int, .int, .int, .int, (.object "jdk/internal/access/JavaLangAccess"), .int]
  resolved := Array.replicate 378 none
  statics := none }

def pool14 : Array CpInfo := pool [(1, u "java/lang/Cloneable"), (0, .class_ 1), (0, u "java/lang/Object"), (0, .class_ 3)] 3

/-- java/lang/Cloneable -/
def k14 : Class := { plain "java/lang/Cloneable" (some 0) with
  accessFlags := 1537
  interfaces := #[]
  cf := some (fileOf pool14 2 #[] #[] 1537 4 #[] #[])
  fields := #[]
  methods := #[]
  instanceTypes := #[]
  staticTypes := #[]
  resolved := Array.replicate 8 none
  statics := none }

/-- the primitive byte -/
def k15 : Class := { plain "byte" none with kind := .primitive 'B', accessFlags := 0x411 }
/-- [B -/
def k16 : Class := { plain "[B" (some 0) with kind := .array 15 .byte, interfaces := #[14, 2], accessFlags := 1041 }

/-- the primitive char -/
def k17 : Class := { plain "char" none with kind := .primitive 'C', accessFlags := 0x411 }
/-- [C -/
def k18 : Class := { plain "[C" (some 0) with kind := .array 17 .char, interfaces := #[14, 2], accessFlags := 1041 }

/-- the primitive int -/
def k19 : Class := { plain "int" none with kind := .primitive 'I', accessFlags := 0x411 }
/-- [I -/
def k20 : Class := { plain "[I" (some 0) with kind := .array 19 .int, interfaces := #[14, 2], accessFlags := 1041 }

def heap : Heap := #[{ cls := 7, slots := #[.long 0, .int 1, .null, .int 0, .null, .int 0, .int 0], vm := .statics 7 },
  { cls := 8, slots := #[.int 0, .int 8, .int 0, .int 1], vm := .statics 8 },
  { cls := 12, slots := #[.null, .null, .null], vm := .statics 12 }]
def classes : Array Class := #[k0, k1, k2, k3, k4, k5, k6, k7, k8, k9, k10, k11, k12, k13, k14, k15, k16, k17, k18, k19, k20]
def interned : List (Array UInt16 × Addr) := []
def slotsUsed : Nat := 14
def theMethod : MethodId := ⟨1, 1⟩
def args0 : Array Value := #[.int 300, .int 5, .int 5, .int 5, .int 1]
def aboutOver (below : List Frame) : State where
  vm := { classes := classes, interned := interned.toArray }
  heap := heap
  slotsUsed := slotsUsed
  threads := #[{ frames := .invoking theMethod args0 :: below }]
def below0 : List Frame := [.native { method := ⟨0, 0⟩, args := #[] }]
def about1 : State := aboutOver below0
def p0 : Program := .bare "" "" ""
def e0 : Env := launch0.env 0 0 0
theorem w_frames : about1.frames = Frame.invoking theMethod args0 :: below0 := rfl
set_option maxRecDepth 65536 in
theorem w_args : argsFit about1.vm theMethod args0 = true := by decide +kernel
set_option maxRecDepth 65536 in
theorem w_heap : heapFits about1 = true := by decide +kernel
set_option maxRecDepth 65536 in
theorem w_runnable : about1.curStatus? = some .runnable := by decide +kernel
set_option maxRecDepth 65536 in
theorem w_alone : about1.alone = true := by decide +kernel
set_option maxRecDepth 65536 in
theorem w_named : about1.methodNamed? x = some theMethod := by decide +kernel
set_option maxRecDepth 65536 in
theorem w_hears : about1.hears theMethod below0 = true := by decide +kernel
set_option maxRecDepth 65536 in
theorem w_ripe : about1.ripe theMethod args0 below0 = true := by decide +kernel
theorem w_running : about1.status = .running := rfl
set_option maxRecDepth 65536 in
theorem w_room : about1.hasRoom e0.platform room_1 = true :=
  launch0.hasRoom_least _ room_1 (by decide +kernel) (by decide +kernel) (by decide +kernel) (by decide +kernel) (by decide +kernel) (by decide +kernel)
theorem allAtoms_all (ts : List Jvm.Cond) (a : Array Jvm.Value) (st : Jvm.State) : (allAtoms ts).before a st = ts.all (fun c => c.before a st) := by
  induction ts with
  | nil => rfl
  | cons c t ih =>
    show (Jvm.Cond.and c (allAtoms t)).before a st = _
    rw [Jvm.Cond.before_and, ih, List.all_cons]
def words1 : List Jvm.Cond := Jvm.Cond.code x code maxLocals ret :: tables_1
/-- a 'code' word, met by the world's own term for the bytes: nothing is compared byte by byte -/
theorem code_word {y : MethodName} {bytes : ByteArray} {mx : Nat} {rt : Option FieldType} {a : Array Value} {s : State} {m : MethodId} {meth : Method} {c : Code} (h1 : s.methodNamed? y = some m) (h2 : s.vm.method? m = some meth) (h3 : meth.code = some c) (h4 : c.code = bytes)
    (h5 : (c.maxLocals == mx && c.exceptionTable.isEmpty && decide (c.maxStack ≤ mostOperands) && decide (meth.sig.returnType = rt) && !meth.locks && decide (parseMethodDescriptor y.desc = some meth.sig)) = true) : (Jvm.Cond.code y bytes mx rt).before a s = true := by
  simp only [Bool.and_eq_true, beq_iff_eq, Bool.not_eq_true', decide_eq_true_eq] at h5
  obtain ⟨⟨⟨⟨⟨g1, g2⟩, g3⟩, g4⟩, g5⟩, g6⟩ := h5
  simp [Cond.before, Cond.holds, Cond.value, h1, h2, h3, h4, g1, g2, g3, g4, g5, g6]
def isCode : Jvm.Cond → Bool
  | .code _ _ _ _ => true
  | _ => false
theorem all_split {L : List Jvm.Cond} {P : Jvm.Cond → Bool} (h1 : L.all (fun c => isCode c || P c) = true) (h2 : ∀ c ∈ L.filter isCode, P c = true) : L.all P = true := by
  refine List.all_eq_true.mpr fun c hc => ?_
  have h := List.all_eq_true.mp h1 c hc
  rcases Bool.eq_false_or_eq_true (isCode c) with hi | hi
  · exact h2 c (List.mem_filter.mpr ⟨hc, hi⟩)
  · simpa [hi] using h
set_option maxRecDepth 65536 in
theorem w_c0 : (Jvm.Cond.code x code maxLocals ret).before args0 about1 = true := code_word (m := ⟨1, 1⟩) (meth := k1m1) (c := k1c1) (by decide +kernel) rfl rfl rfl (by decide +kernel)
set_option maxRecDepth 65536 in
theorem w_c1 : (Jvm.Cond.code ({ cls := "java/lang/String", name := "<init>", desc := "([C)V" } : Jvm.MethodName) jdk_42_method_3_code (2 : Nat) (Option.none : Option Jvm.ClassFile.FieldType)).before args0 about1 = true := code_word (m := ⟨7, 1⟩) (meth := k7m1) (c := k7c1) (by decide +kernel) rfl rfl rfl (by decide +kernel)
set_option maxRecDepth 65536 in
theorem w_c2 : (Jvm.Cond.code ({ cls := "java/lang/String", name := "<init>", desc := "([CIILjava/lang/Void;)V" } : Jvm.MethodName) jdk_42_method_149_code (6 : Nat) (Option.none : Option Jvm.ClassFile.FieldType)).before args0 about1 = true := code_word (m := ⟨7, 5⟩) (meth := k7m5) (c := k7c5) (by decide +kernel) rfl rfl rfl (by decide +kernel)
set_option maxRecDepth 65536 in
theorem w_c3 : (Jvm.Cond.code ({ cls := "java/lang/Object", name := "<init>", desc := "()V" } : Jvm.MethodName) object_method_1_code (1 : Nat) (Option.none : Option Jvm.ClassFile.FieldType)).before args0 about1 = true := code_word (m := ⟨0, 0⟩) (meth := k0m0) (c := k0c0) (by decide +kernel) rfl rfl rfl (by decide +kernel)
set_option maxRecDepth 65536 in
theorem w_c4 : (Jvm.Cond.code ({ cls := "java/lang/StringUTF16", name := "compress", desc := "([CII)[B" } : Jvm.MethodName) jdk_52_method_16_code (6 : Nat) (Option.some (Jvm.ClassFile.FieldType.array Jvm.ClassFile.FieldType.byte))).before args0 about1 = true := code_word (m := ⟨8, 8⟩) (meth := k8m8) (c := k8c8) (by decide +kernel) rfl rfl rfl (by decide +kernel)
set_option maxRecDepth 65536 in
theorem w_c5 : (Jvm.Cond.code ({ cls := "java/lang/StringUTF16", name := "compress", desc := "([CI[BII)I" } : Jvm.MethodName) jdk_52_method_21_code (7 : Nat) (Option.some Jvm.ClassFile.FieldType.int)).before args0 about1 = true := code_word (m := ⟨8, 9⟩) (meth := k8m9) (c := k8c9) (by decide +kernel) rfl rfl rfl (by decide +kernel)
set_option maxRecDepth 65536 in
theorem w_c6 : (Jvm.Cond.code ({ cls := "java/lang/StringUTF16", name := "coderFromArrayLen", desc := "([BI)B" } : Jvm.MethodName) jdk_52_method_15_code (2 : Nat) (Option.some Jvm.ClassFile.FieldType.byte)).before args0 about1 = true := code_word (m := ⟨8, 7⟩) (meth := k8m7) (c := k8c7) (by decide +kernel) rfl rfl rfl (by decide +kernel)
set_option maxRecDepth 65536 in
theorem w_c7 : (Jvm.Cond.code ({ cls := "com/example/admit/admit/model/AclEntry", name := "requirePrivilegeName", desc := "(Ljava/lang/String;)Ljava/lang/String;" } : Jvm.MethodName) prog_16_method_3_code (1 : Nat) (Option.some (Jvm.ClassFile.FieldType.object "java/lang/String"))).before args0 about1 = true := code_word (m := ⟨9, 0⟩) (meth := k9m0) (c := k9c0) (by decide +kernel) rfl rfl rfl (by decide +kernel)
set_option maxRecDepth 65536 in
theorem w_c8 : (Jvm.Cond.code ({ cls := "java/util/Objects", name := "requireNonNull", desc := "(Ljava/lang/Object;Ljava/lang/String;)Ljava/lang/Object;" } : Jvm.MethodName) jdk_31_method_11_code (2 : Nat) (Option.some (Jvm.ClassFile.FieldType.object "java/lang/Object"))).before args0 about1 = true := code_word (m := ⟨10, 1⟩) (meth := k10m1) (c := k10c1) (by decide +kernel) rfl rfl rfl (by decide +kernel)
set_option maxRecDepth 65536 in
theorem w_c9 : (Jvm.Cond.code ({ cls := "java/lang/String", name := "isEmpty", desc := "()Z" } : Jvm.MethodName) jdk_42_method_55_code (1 : Nat) (Option.some Jvm.ClassFile.FieldType.boolean)).before args0 about1 = true := code_word (m := ⟨7, 3⟩) (meth := k7m3) (c := k7c3) (by decide +kernel) rfl rfl rfl (by decide +kernel)
set_option maxRecDepth 65536 in
theorem w_c10 : (Jvm.Cond.code ({ cls := "java/lang/String", name := "length", desc := "()I" } : Jvm.MethodName) jdk_42_method_54_code (1 : Nat) (Option.some Jvm.ClassFile.FieldType.int)).before args0 about1 = true := code_word (m := ⟨7, 2⟩) (meth := k7m2) (c := k7c2) (by decide +kernel) rfl rfl rfl (by decide +kernel)
set_option maxRecDepth 65536 in
theorem w_c11 : (Jvm.Cond.code ({ cls := "java/lang/String", name := "coder", desc := "()B" } : Jvm.MethodName) jdk_42_method_152_code (1 : Nat) (Option.some Jvm.ClassFile.FieldType.byte)).before args0 about1 = true := code_word (m := ⟨7, 6⟩) (meth := k7m6) (c := k7c6) (by decide +kernel) rfl rfl rfl (by decide +kernel)
set_option maxRecDepth 65536 in
theorem w_c12 : (Jvm.Cond.code ({ cls := "java/lang/String", name := "charAt", desc := "(I)C" } : Jvm.MethodName) jdk_42_method_56_code (2 : Nat) (Option.some Jvm.ClassFile.FieldType.char)).before args0 about1 = true := code_word (m := ⟨7, 4⟩) (meth := k7m4) (c := k7c4) (by decide +kernel) rfl rfl rfl (by decide +kernel)
set_option maxRecDepth 65536 in
theorem w_c13 : (Jvm.Cond.code ({ cls := "java/lang/String", name := "isLatin1", desc := "()Z" } : Jvm.MethodName) jdk_42_method_154_code (1 : Nat) (Option.some Jvm.ClassFile.FieldType.boolean)).before args0 about1 = true := code_word (m := ⟨7, 7⟩) (meth := k7m7) (c := k7c7) (by decide +kernel) rfl rfl rfl (by decide +kernel)
set_option maxRecDepth 65536 in
theorem w_c14 : (Jvm.Cond.code ({ cls := "java/lang/StringLatin1", name := "charAt", desc := "([BI)C" } : Jvm.MethodName) jdk_43_method_2_code (2 : Nat) (Option.some Jvm.ClassFile.FieldType.char)).before args0 about1 = true := code_word (m := ⟨11, 1⟩) (meth := k11m1) (c := k11c1) (by decide +kernel) rfl rfl rfl (by decide +kernel)
set_option maxRecDepth 65536 in
theorem w_c15 : (Jvm.Cond.code ({ cls := "java/lang/String", name := "checkIndex", desc := "(II)V" } : Jvm.MethodName) jdk_42_method_155_code (2 : Nat) (Option.none : Option Jvm.ClassFile.FieldType)).before args0 about1 = true := code_word (m := ⟨7, 8⟩) (meth := k7m8) (c := k7c8) (by decide +kernel) rfl rfl rfl (by decide +kernel)
set_option maxRecDepth 65536 in
theorem w_c16 : (Jvm.Cond.code ({ cls := "jdk/internal/util/Preconditions", name := "checkIndex", desc := "(IILjava/util/function/BiFunction;)I" } : Jvm.MethodName) jdk_41_method_11_code (3 : Nat) (Option.some Jvm.ClassFile.FieldType.int)).before args0 about1 = true := code_word (m := ⟨12, 1⟩) (meth := k12m1) (c := k12c1) (by decide +kernel) rfl rfl rfl (by decide +kernel)
set_option maxRecDepth 65536 in
theorem w_c17 : (Jvm.Cond.code ({ cls := "java/lang/StringUTF16", name := "toBytes", desc := "([CII)[B" } : Jvm.MethodName) jdk_52_method_14_code (5 : Nat) (Option.some (Jvm.ClassFile.FieldType.array Jvm.ClassFile.FieldType.byte))).before args0 about1 = true := code_word (m := ⟨8, 6⟩) (meth := k8m6) (c := k8c6) (by decide +kernel) rfl rfl rfl (by decide +kernel)
set_option maxRecDepth 65536 in
theorem w_c18 : (Jvm.Cond.code ({ cls := "java/lang/StringUTF16", name := "newBytesFor", desc := "(I)[B" } : Jvm.MethodName) jdk_52_method_2_code (1 : Nat) (Option.some (Jvm.ClassFile.FieldType.array Jvm.ClassFile.FieldType.byte))).before args0 about1 = true := code_word (m := ⟨8, 1⟩) (meth := k8m1) (c := k8c1) (by decide +kernel) rfl rfl rfl (by decide +kernel)
set_option maxRecDepth 65536 in
theorem w_c19 : (Jvm.Cond.code ({ cls := "java/lang/StringUTF16", name := "newBytesLength", desc := "(I)I" } : Jvm.MethodName) jdk_52_method_3_code (1 : Nat) (Option.some Jvm.ClassFile.FieldType.int)).before args0 about1 = true := code_word (m := ⟨8, 2⟩) (meth := k8m2) (c := k8c2) (by decide +kernel) rfl rfl rfl (by decide +kernel)
set_option maxRecDepth 65536 in
theorem w_c20 : (Jvm.Cond.code ({ cls := "java/lang/StringUTF16", name := "putChar", desc := "([BII)V" } : Jvm.MethodName) jdk_52_method_4_code (3 : Nat) (Option.none : Option Jvm.ClassFile.FieldType)).before args0 about1 = true := code_word (m := ⟨8, 3⟩) (meth := k8m3) (c := k8c3) (by decide +kernel) rfl rfl rfl (by decide +kernel)
set_option maxRecDepth 65536 in
theorem w_c21 : (Jvm.Cond.code ({ cls := "java/lang/StringUTF16", name := "getChar", desc := "([BI)C" } : Jvm.MethodName) jdk_52_method_5_code (2 : Nat) (Option.some Jvm.ClassFile.FieldType.char)).before args0 about1 = true := code_word (m := ⟨8, 4⟩) (meth := k8m4) (c := k8c4) (by decide +kernel) rfl rfl rfl (by decide +kernel)
set_option maxRecDepth 65536 in
theorem w_c22 : (Jvm.Cond.code ({ cls := "java/lang/StringUTF16", name := "charAt", desc := "([BI)C" } : Jvm.MethodName) jdk_52_method_83_code (2 : Nat) (Option.some Jvm.ClassFile.FieldType.char)).before args0 about1 = true := code_word (m := ⟨8, 10⟩) (meth := k8m10) (c := k8c10) (by decide +kernel) rfl rfl rfl (by decide +kernel)
set_option maxRecDepth 65536 in
theorem w_c23 : (Jvm.Cond.code ({ cls := "java/lang/StringUTF16", name := "checkIndex", desc := "(I[B)V" } : Jvm.MethodName) jdk_52_method_91_code (2 : Nat) (Option.none : Option Jvm.ClassFile.FieldType)).before args0 about1 = true := code_word (m := ⟨8, 11⟩) (meth := k8m11) (c := k8c11) (by decide +kernel) rfl rfl rfl (by decide +kernel)
set_option maxRecDepth 65536 in
theorem w_c24 : (Jvm.Cond.code ({ cls := "java/lang/StringUTF16", name := "length", desc := "([B)I" } : Jvm.MethodName) jdk_52_method_6_code (1 : Nat) (Option.some Jvm.ClassFile.FieldType.int)).before args0 about1 = true := code_word (m := ⟨8, 5⟩) (meth := k8m5) (c := k8c5) (by decide +kernel) rfl rfl rfl (by decide +kernel)
def codes1 : List Jvm.Cond := [Jvm.Cond.code x code maxLocals ret, Jvm.Cond.code ({ cls := "java/lang/String", name := "<init>", desc := "([C)V" } : Jvm.MethodName) jdk_42_method_3_code (2 : Nat) (Option.none : Option Jvm.ClassFile.FieldType), Jvm.Cond.code ({ cls := "java/lang/String", name := "<init>", desc := "([CIILjava/lang/Void;)V" } : Jvm.MethodName) jdk_42_method_149_code (6 : Nat) (Option.none : Option Jvm.ClassFile.FieldType), Jvm.Cond.code ({ cls := "java/lang/Object", name := "<init>", desc := "()V" } : Jvm.MethodName) object_method_1_code (1 : Nat) (Option.none : Option Jvm.ClassFile.FieldType), Jvm.Cond.code ({ cls := "java/lang/StringUTF16", name := "compress", desc := "([CII)[B" } : Jvm.MethodName) jdk_52_method_16_code (6 : Nat) (Option.some (Jvm.ClassFile.FieldType.array Jvm.ClassFile.FieldType.byte)), Jvm.Cond.code ({ cls := "java/lang/StringUTF16", name := "compress", desc := "([CI[BII)I" } : Jvm.MethodName) jdk_52_method_21_code (7 : Nat) (Option.some Jvm.ClassFile.FieldType.int), Jvm.Cond.code ({ cls := "java/lang/StringUTF16", name := "coderFromArrayLen", desc := "([BI)B" } : Jvm.MethodName) jdk_52_method_15_code (2 : Nat) (Option.some Jvm.ClassFile.FieldType.byte), Jvm.Cond.code ({ cls := "com/example/admit/admit/model/AclEntry", name := "requirePrivilegeName", desc := "(Ljava/lang/String;)Ljava/lang/String;" } : Jvm.MethodName) prog_16_method_3_code (1 : Nat) (Option.some (Jvm.ClassFile.FieldType.object "java/lang/String")), Jvm.Cond.code ({ cls := "java/util/Objects", name := "requireNonNull", desc := "(Ljava/lang/Object;Ljava/lang/String;)Ljava/lang/Object;" } : Jvm.MethodName) jdk_31_method_11_code (2 : Nat) (Option.some (Jvm.ClassFile.FieldType.object "java/lang/Object")), Jvm.Cond.code ({ cls := "java/lang/String", name := "isEmpty", desc := "()Z" } : Jvm.MethodName) jdk_42_method_55_code (1 : Nat) (Option.some Jvm.ClassFile.FieldType.boolean), Jvm.Cond.code ({ cls := "java/lang/String", name := "length", desc := "()I" } : Jvm.MethodName) jdk_42_method_54_code (1 : Nat) (Option.some Jvm.ClassFile.FieldType.int), Jvm.Cond.code ({ cls := "java/lang/String", name := "coder", desc := "()B" } : Jvm.MethodName) jdk_42_method_152_code (1 : Nat) (Option.some Jvm.ClassFile.FieldType.byte), Jvm.Cond.code ({ cls := "java/lang/String", name := "charAt", desc := "(I)C" } : Jvm.MethodName) jdk_42_method_56_code (2 : Nat) (Option.some Jvm.ClassFile.FieldType.char), Jvm.Cond.code ({ cls := "java/lang/String", name := "isLatin1", desc := "()Z" } : Jvm.MethodName) jdk_42_method_154_code (1 : Nat) (Option.some Jvm.ClassFile.FieldType.boolean), Jvm.Cond.code ({ cls := "java/lang/StringLatin1", name := "charAt", desc := "([BI)C" } : Jvm.MethodName) jdk_43_method_2_code (2 : Nat) (Option.some Jvm.ClassFile.FieldType.char), Jvm.Cond.code ({ cls := "java/lang/String", name := "checkIndex", desc := "(II)V" } : Jvm.MethodName) jdk_42_method_155_code (2 : Nat) (Option.none : Option Jvm.ClassFile.FieldType), Jvm.Cond.code ({ cls := "jdk/internal/util/Preconditions", name := "checkIndex", desc := "(IILjava/util/function/BiFunction;)I" } : Jvm.MethodName) jdk_41_method_11_code (3 : Nat) (Option.some Jvm.ClassFile.FieldType.int), Jvm.Cond.code ({ cls := "java/lang/StringUTF16", name := "toBytes", desc := "([CII)[B" } : Jvm.MethodName) jdk_52_method_14_code (5 : Nat) (Option.some (Jvm.ClassFile.FieldType.array Jvm.ClassFile.FieldType.byte)), Jvm.Cond.code ({ cls := "java/lang/StringUTF16", name := "newBytesFor", desc := "(I)[B" } : Jvm.MethodName) jdk_52_method_2_code (1 : Nat) (Option.some (Jvm.ClassFile.FieldType.array Jvm.ClassFile.FieldType.byte)), Jvm.Cond.code ({ cls := "java/lang/StringUTF16", name := "newBytesLength", desc := "(I)I" } : Jvm.MethodName) jdk_52_method_3_code (1 : Nat) (Option.some Jvm.ClassFile.FieldType.int), Jvm.Cond.code ({ cls := "java/lang/StringUTF16", name := "putChar", desc := "([BII)V" } : Jvm.MethodName) jdk_52_method_4_code (3 : Nat) (Option.none : Option Jvm.ClassFile.FieldType), Jvm.Cond.code ({ cls := "java/lang/StringUTF16", name := "getChar", desc := "([BI)C" } : Jvm.MethodName) jdk_52_method_5_code (2 : Nat) (Option.some Jvm.ClassFile.FieldType.char), Jvm.Cond.code ({ cls := "java/lang/StringUTF16", name := "charAt", desc := "([BI)C" } : Jvm.MethodName) jdk_52_method_83_code (2 : Nat) (Option.some Jvm.ClassFile.FieldType.char), Jvm.Cond.code ({ cls := "java/lang/StringUTF16", name := "checkIndex", desc := "(I[B)V" } : Jvm.MethodName) jdk_52_method_91_code (2 : Nat) (Option.none : Option Jvm.ClassFile.FieldType), Jvm.Cond.code ({ cls := "java/lang/StringUTF16", name := "length", desc := "([B)I" } : Jvm.MethodName) jdk_52_method_6_code (1 : Nat) (Option.some Jvm.ClassFile.FieldType.int)]
set_option maxRecDepth 65536 in
theorem codes_eq : words1.filter isCode = codes1 := rfl
theorem w_codes : ∀ c ∈ words1.filter isCode, c.before args0 about1 = true := by
  rw [codes_eq]
  intro c hc
  simp only [codes1, List.mem_cons, List.not_mem_nil, or_false] at hc
  rcases hc with rfl | rfl | rfl | rfl | rfl | rfl | rfl | rfl | rfl | rfl | rfl | rfl | rfl | rfl | rfl | rfl | rfl | rfl | rfl | rfl | rfl | rfl | rfl | rfl | rfl
  · exact w_c0
  · exact w_c1
  · exact w_c2
  · exact w_c3
  · exact w_c4
  · exact w_c5
  · exact w_c6
  · exact w_c7
  · exact w_c8
  · exact w_c9
  · exact w_c10
  · exact w_c11
  · exact w_c12
  · exact w_c13
  · exact w_c14
  · exact w_c15
  · exact w_c16
  · exact w_c17
  · exact w_c18
  · exact w_c19
  · exact w_c20
  · exact w_c21
  · exact w_c22
  · exact w_c23
  · exact w_c24
set_option maxRecDepth 65536 in
theorem w_t1 : (words1.take 24).all (fun c => isCode c || c.before args0 about1) = true := by decide +kernel
set_option maxRecDepth 65536 in
theorem w_t2 : ((words1.drop 24).take 24).all (fun c => isCode c || c.before args0 about1) = true := by decide +kernel
set_option maxRecDepth 65536 in
theorem w_t3 : (((words1.drop 24).drop 24).take 24).all (fun c => isCode c || c.before args0 about1) = true := by decide +kernel
set_option maxRecDepth 65536 in
theorem w_t4 : ((((words1.drop 24).drop 24).drop 24).take 24).all (fun c => isCode c || c.before args0 about1) = true := by decide +kernel
set_option maxRecDepth 65536 in
theorem w_t5 : ((((words1.drop 24).drop 24).drop 24).drop 24).all (fun c => isCode c || c.before args0 about1) = true := by decide +kernel
theorem w_tables : (allAtoms (Jvm.Cond.code x code maxLocals ret :: tables_1)).before args0 about1 = true := by
  rw [allAtoms_all]
  show words1.all (fun c => c.before args0 about1) = true
  refine all_split ?_ w_codes
  rw [← List.take_append_drop 24 words1, List.all_append, w_t1, ← List.take_append_drop 24 (words1.drop 24), List.all_append, w_t2, ← List.take_append_drop 24 ((words1.drop 24).drop 24), List.all_append, w_t3, ← List.take_append_drop 24 (((words1.drop 24).drop 24).drop 24), List.all_append, w_t4, w_t5]
  rfl
set_option maxRecDepth 65536 in
theorem w_rest : rest_1_c.before args0 about1 = true := by decide +kernel
set_option maxRecDepth 65536 in
theorem w_case : (Jvm.Cond.and given_1 narrow_1).before args0 about1 = true := by decide +kernel
theorem w_applies : (headSpec (Jvm.Cond.code x code maxLocals ret :: tables_1) room_1).applies x e0.platform about1 = true :=
  (Spec.applies_iff w_frames).mpr ⟨w_running, w_runnable, w_alone, w_named, w_hears, w_ripe, w_room, w_tables⟩
theorem atStart : AtStart classFile x code maxLocals ret World_1 tables_1 room_1 Calls_1 rest_1 Pre_1 launch0 p0 e0 about1 theMethod args0 below0 :=
  ⟨lists_1, trivial, launch0.admits_env _ _ _, launch0.least_env, fairChoices_fair.cas, fairChoices_fair.clock, w_frames, w_args, w_heap, w_applies, trivial, w_rest, w_case⟩
end start1
theorem witness_1 : WitnessClaimed_1 := ⟨start1.p0, start1.e0, start1.about1, start1.theMethod, start1.args0, start1.below0, start1.atStart⟩
end Jvm.Pilot.@@N@@
